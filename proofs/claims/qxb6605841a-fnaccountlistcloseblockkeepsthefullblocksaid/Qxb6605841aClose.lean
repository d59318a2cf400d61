/-
  closeBlock.
-/
import Derived.Test.Qxb6605841aGrow
namespace Go.Proofs.Qxb6605841a
open Go.RowKit
set_option linter.unusedVariables false
set_option linter.unusedSimpArgs false

theorem owns_kept {w w' : World} {base : Nat} {e : TypeId} {size : Nat} {v : Value} {n : Nat} {xs : List Value} (h : w.ownsRow base e size v n xs) (hb : ∀ j, v.ownBlock = some j → w'.heap[j]? = w.heap[j]?) : w'.ownsRow base e size v n xs := by
  refine ⟨h.1, ?_⟩
  rcases h.2 with h | ⟨g, cap, cur, h1, h2, h3, h4⟩
  · exact .inl h
  · exact .inr ⟨g, cap, cur, h1, h2, (hb g (by rw [h1]; rfl)).trans h3, h4⟩

theorem below_heap {w w' : World} {B : Nat} (hb : Below B w w') {k : Nat} (hk : k < B) : w'.heap[k]? = w.heap[k]? := hb.block k hk

set_option maxRecDepth 100000 in
set_option maxHeartbeats 4000000 in
theorem close29 (B base g k cap m cap2 : Nat) (a : Option Addr) (p e n : Value) (xs : List Value) (l : List UInt8) (w W1 : World)
    (hs : Calls Try.prog 35 #[.pointer (some ⟨B, 1, none⟩)] w fun e' w' => e' = .returned (.string ⟨l.toArray⟩) ∧ w' = W1)
    (h : ListAt W1 B (.slice (some ⟨g, 0, none⟩) k cap) p (.slice a m cap2) e n) (hf : W1.ownsRow base 9 1 (.slice (some ⟨g, 0, none⟩) k cap) k xs) (hb : Below base w W1) (hsz : W1.heap.size = w.heap.size) (hBB : base ≤ B)
    (hm : l.length ≤ 1048576) (hk : k ≤ 16) (hcl : l.length < cap2 → l ≠ []) (hcap : cap2 ≤ 9223372036854775807) :
    Calls Try.prog 29 #[.pointer (some ⟨B, 0, none⟩)] w fun e' w' => e' = .returned (.tuple #[]) ∧
      (∃ full b cap', ListAt w' B full (.pointer (some ⟨B, 1, none⟩)) (.slice b 0 cap') e n ∧ l.length ≤ cap' ∧ (b = none ∨ ∃ x, b = some x ∧ cap' ≠ 0) ∧ w'.ownsRow base 9 1 full (k + 1) (xs ++ [.string ⟨l.toArray⟩]) ∧ full ≠ .slice none 0 0) ∧ Below base w w' ∧
      ∀ j, j < w.heap.size → j ≠ B → j ≠ g → w'.heap[j]? = W1.heap[j]? := by
  obtain ⟨i0, hi, hz0, hz1, hz2⟩ := info_parts info9
  have hlt := h.lt
  have hbw : base ≤ W1.heap.size := by omega
  have hc := cap31 B m cap2 a _ p e n W1 h
  have hgB : some B ≠ some g := fun e => Lib.ownBlock_ne hf h (by decide) e.symm
  have hsl : (⟨l.toArray⟩ : ByteArray).size = l.length := by simp [ByteArray.size]
  have HL := hid h
  have HF := hid hf
  have HB := hid hb
  have HZ := hid hsz
  have hbi : B < w.heap.size := by omega
  clear h hf hb hsz
  by_cases hlc : l.length < cap2
  · have hcl' := clone37 l W1 (hcl hlc) hm
    clear hcl
    go_enter Try.func29, Try.ntmps29
    go_wp2_with (first
      | (go_at_call 35; refine hs.mono ?_; rintro e' w1 ⟨rfl, rfl⟩)
      | (go_at_call 31; refine hc.mono ?_; rintro e' w1' ⟨rfl, rfl⟩))
    refine hcl'.mono ?_
    rintro e' w2 ⟨rfl, hb2⟩
    have HLX := hid (HL.out.later (hb2.block B hlt))
    have HFX := hid (owns_below HF.out hb2)
    have HBX := hid (HB.out.trans (hb2.mono hbw))
    have HSX : Hid (base ≤ (w2.alloc (.cells #[.string ⟨l.toArray⟩] 9)).heap.size) := hid (by rw [World.size_alloc]; have := hb2.size; omega)
    have HKX : Hid (∀ j, j < w.heap.size → w2.heap[j]? = w1.heap[j]?) := fun j hj => hb2.block j (by have := HZ.out; omega)
    clear hb2

    have HLX2 : Hid (ListAt (w2.alloc (.cells #[.string ⟨l.toArray⟩] 9)) B (.slice (some ⟨g, 0, none⟩) k cap) p (.slice a m cap2) e n) := HLX.out.later (heap_alloc_old' w2 _ HLX.out.lt)
    have c0 := HLX.out.c0
    go_wp2_with (at_builtin; refine wpList_append_own _ rfl _ _ 28 rfl base 9 i0 (.string .empty) 1 16 Try.underlying28 hi hz0 hz1 hz2 rfl (by omega) _ k xs rfl (HFX.out.alloc _) ⟨w2.heap.size, 0, none⟩ 1 1 [.string ⟨l.toArray⟩] rfl rfl (cell_one_new _ _ _) (by simp [Value.oneCell']) (by unfold maxLen; omega) (by omega) HSX.out ?_; intro v' w3 hown' hgrow hnil; have HO' := hid hown'; have HG : Hid ((w2.alloc (.cells #[.string ⟨l.toArray⟩] 9)).grownBy w3 (some g)) := hid hgrow; have HNN : Hid (v' ≠ .slice none 0 0) := hid (fun e => by have q : Value.slice (some ⟨g, 0, none⟩) k cap = .slice none 0 0 := (hnil.1 e).1; cases q); have l3 := HLX2.out.later (hgrow.block B HLX2.out.lt hgB); have HL3 := hid l3; have d0 := l3.c0; have d1 := l3.c1; have d2 := l3.c2; have q0 := l3.fz 0; have q1 := l3.fz 1; have q2 := l3.fz 2; clear l3 hown' hgrow hnil; obtain ⟨ao, n', cap3, rfl⟩ : ∃ ao n' cap3, v' = .slice ao n' cap3 := (by rcases HO'.out.2 with ⟨hv, _⟩ | ⟨_, _, cur, hv, _⟩ <;> exact ⟨_, _, _, hv⟩))
    have hbX := HBX.out.size
    have hs3 : w2.heap.size + 1 ≤ w3.heap.size := by have := HG.out.size; rwa [World.size_alloc] at this
    refine (grow38 B l.length base (.slice ao n' cap3) e n _ (((HL3.out.set0 _).set1 _).set2 _) hm (by simp; omega) hBB).mono ?_
    rintro e' w6 ⟨rfl, ⟨b, cap', hcc, hbb, hl6⟩, hb6, hk6⟩
    have HL6 := hid hl6
    have HB6 := hid hb6
    have HK6 := hid hk6
    clear hl6 hb6 hk6
    go_wp2
    go_end0
    have hne : (Value.slice ao n' cap3).ownBlock ≠ some B := Lib.ownBlock_ne HO'.out HL3.out (by decide)
    have h5 : ∀ j, j ≠ B → (((w3.setCell ⟨B, 0, none⟩ (.slice ao n' cap3)).setCell ⟨B, 1, none⟩ (.pointer none)).setCell ⟨B, 2, none⟩ (.slice none 0 0)).heap[j]? = w3.heap[j]? := fun j hj =>
      (Below.heap_setCell _ ⟨B, 2, none⟩ _ j (fun e => hj e)).trans ((Below.heap_setCell _ ⟨B, 1, none⟩ _ j (fun e => hj e)).trans (Below.heap_setCell _ ⟨B, 0, none⟩ _ j (fun e => hj e)))
    refine ⟨rfl, ⟨_, b, cap', HL6.out, hcc, hbb, owns_kept HO'.out (fun j hj => ?_), HNN.out⟩, ?_, fun j hj hjB hjg => ?_⟩
    · have hjB : j ≠ B := fun e => hne (by rw [hj, e])
      have hj3 := (HO'.out.lt j hj).2
      exact (HK6.out j (by simpa using hj3) hjB).trans (h5 j hjB)
    · have hX : Below base w (w2.alloc (.cells #[.string ⟨l.toArray⟩] 9)) := HBX.out.alloc (by omega) _
      have h3 : Below base w w3 := hX.grown HG.out (by rw [World.size_alloc]; omega) (fun j e => by cases e; exact (HFX.out.lt g rfl).1)
      exact (((h3.setCell (p := ⟨B, 0, none⟩) hBB _).setCell (p := ⟨B, 1, none⟩) hBB _).setCell (p := ⟨B, 2, none⟩) hBB _).trans HB6.out
    · have hjX : j < w2.heap.size := by omega
      refine (HK6.out j (by simp; omega) hjB).trans ((h5 j hjB).trans ((HG.out.block j (by rw [World.size_alloc]; omega) (fun e => hjg (by cases e; rfl))).trans ((heap_alloc_old' w2 _ hjX).trans ?_)))
      first | rfl | exact HKX.out j hj
  · go_enter Try.func29, Try.ntmps29
    go_wp2_with (go_at_call 35; refine hs.mono ?_; rintro e' w1 ⟨rfl, rfl⟩)
    have HLX := HL
    have HFX := HF
    have HBX := HB
    have HKX : Hid (∀ j, j < w.heap.size → w1.heap[j]? = w1.heap[j]?) := fun _ _ => rfl
    have HSX : Hid (base ≤ (w1.alloc (.cells #[.string ⟨l.toArray⟩] 9)).heap.size) := hid (by rw [World.size_alloc]; omega)
    refine hc.mono ?_
    rintro e' w1' ⟨rfl, rfl⟩

    have HLX2 : Hid (ListAt (w1.alloc (.cells #[.string ⟨l.toArray⟩] 9)) B (.slice (some ⟨g, 0, none⟩) k cap) p (.slice a m cap2) e n) := HLX.out.later (heap_alloc_old' w1 _ HLX.out.lt)
    have c0 := HLX.out.c0
    go_wp2_with (at_builtin; refine wpList_append_own _ rfl _ _ 28 rfl base 9 i0 (.string .empty) 1 16 Try.underlying28 hi hz0 hz1 hz2 rfl (by omega) _ k xs rfl (HFX.out.alloc _) ⟨w1.heap.size, 0, none⟩ 1 1 [.string ⟨l.toArray⟩] rfl rfl (cell_one_new _ _ _) (by simp [Value.oneCell']) (by unfold maxLen; omega) (by omega) HSX.out ?_; intro v' w3 hown' hgrow hnil; have HO' := hid hown'; have HG : Hid ((w1.alloc (.cells #[.string ⟨l.toArray⟩] 9)).grownBy w3 (some g)) := hid hgrow; have HNN : Hid (v' ≠ .slice none 0 0) := hid (fun e => by have q : Value.slice (some ⟨g, 0, none⟩) k cap = .slice none 0 0 := (hnil.1 e).1; cases q); have l3 := HLX2.out.later (hgrow.block B HLX2.out.lt hgB); have HL3 := hid l3; have d0 := l3.c0; have d1 := l3.c1; have d2 := l3.c2; have q0 := l3.fz 0; have q1 := l3.fz 1; have q2 := l3.fz 2; clear l3 hown' hgrow hnil; obtain ⟨ao, n', cap3, rfl⟩ : ∃ ao n' cap3, v' = .slice ao n' cap3 := (by rcases HO'.out.2 with ⟨hv, _⟩ | ⟨_, _, cur, hv, _⟩ <;> exact ⟨_, _, _, hv⟩))
    have hbX := HBX.out.size
    have hs3 : w1.heap.size + 1 ≤ w3.heap.size := by have := HG.out.size; rwa [World.size_alloc] at this
    refine (grow38 B l.length base (.slice ao n' cap3) e n _ (((HL3.out.set0 _).set1 _).set2 _) hm (by simp; omega) hBB).mono ?_
    rintro e' w6 ⟨rfl, ⟨b, cap', hcc, hbb, hl6⟩, hb6, hk6⟩
    have HL6 := hid hl6
    have HB6 := hid hb6
    have HK6 := hid hk6
    clear hl6 hb6 hk6
    go_wp2
    go_end0
    have hne : (Value.slice ao n' cap3).ownBlock ≠ some B := Lib.ownBlock_ne HO'.out HL3.out (by decide)
    have h5 : ∀ j, j ≠ B → (((w3.setCell ⟨B, 0, none⟩ (.slice ao n' cap3)).setCell ⟨B, 1, none⟩ (.pointer none)).setCell ⟨B, 2, none⟩ (.slice none 0 0)).heap[j]? = w3.heap[j]? := fun j hj =>
      (Below.heap_setCell _ ⟨B, 2, none⟩ _ j (fun e => hj e)).trans ((Below.heap_setCell _ ⟨B, 1, none⟩ _ j (fun e => hj e)).trans (Below.heap_setCell _ ⟨B, 0, none⟩ _ j (fun e => hj e)))
    refine ⟨rfl, ⟨_, b, cap', HL6.out, hcc, hbb, owns_kept HO'.out (fun j hj => ?_), HNN.out⟩, ?_, fun j hj hjB hjg => ?_⟩
    · have hjB : j ≠ B := fun e => hne (by rw [hj, e])
      have hj3 := (HO'.out.lt j hj).2
      exact (HK6.out j (by simpa using hj3) hjB).trans (h5 j hjB)
    · have hX : Below base w (w1.alloc (.cells #[.string ⟨l.toArray⟩] 9)) := HBX.out.alloc (by omega) _
      have h3 : Below base w w3 := hX.grown HG.out (by rw [World.size_alloc]; omega) (fun j e => by cases e; exact (HFX.out.lt g rfl).1)
      exact (((h3.setCell (p := ⟨B, 0, none⟩) hBB _).setCell (p := ⟨B, 1, none⟩) hBB _).setCell (p := ⟨B, 2, none⟩) hBB _).trans HB6.out
    · have hjX : j < w1.heap.size := by omega
      refine (HK6.out j (by simp; omega) hjB).trans ((h5 j hjB).trans ((HG.out.block j (by rw [World.size_alloc]; omega) (fun e => hjg (by cases e; rfl))).trans ((heap_alloc_old' w1 _ hjX).trans ?_)))
      first | rfl | exact HKX.out j hj

end Go.Proofs.Qxb6605841a
