/-
  THE BUILDER INSIDE THE LIST: strings.Builder's methods at a builder that is a field of a block.
-/
import Derived.Test.Qxb6605841aEnds
namespace Go.Proofs.Qxb6605841a
open Go.RowKit
set_option linter.unusedVariables false
set_option linter.unusedSimpArgs false

/-- The list in block B: full, the builder's own address, its bytes, the ends, their number. -/
def ListAt (w : World) (B : Nat) (u p v e n : Value) : Prop := w.heap[B]? = some (.cells #[u, p, v, e, n] 55 (0, 0))

theorem ListAt.lt {w : World} {B : Nat} {u p v e n : Value} (h : ListAt w B u p v e n) : B < w.heap.size := (Array.getElem?_eq_some_iff.1 h).1
theorem ListAt.shape {w : World} {B : Nat} {u p v e n : Value} (h : ListAt w B u p v e n) : w.shape? B = some (55, 5) := by simp [World.shape?, show w.heap[B]? = _ from h]
theorem ListAt.c0 {w : World} {B : Nat} {u p v e n : Value} (h : ListAt w B u p v e n) : w.cell? ⟨B, 0, none⟩ = some u := by simp [World.cell?, show w.heap[B]? = _ from h]
theorem ListAt.c1 {w : World} {B : Nat} {u p v e n : Value} (h : ListAt w B u p v e n) : w.cell? ⟨B, 1, none⟩ = some p := by simp [World.cell?, show w.heap[B]? = _ from h]
theorem ListAt.c2 {w : World} {B : Nat} {u p v e n : Value} (h : ListAt w B u p v e n) : w.cell? ⟨B, 2, none⟩ = some v := by simp [World.cell?, show w.heap[B]? = _ from h]
theorem ListAt.c3 {w : World} {B : Nat} {u p v e n : Value} (h : ListAt w B u p v e n) : w.cell? ⟨B, 3, none⟩ = some e := by simp [World.cell?, show w.heap[B]? = _ from h]
theorem ListAt.c4 {w : World} {B : Nat} {u p v e n : Value} (h : ListAt w B u p v e n) : w.cell? ⟨B, 4, none⟩ = some n := by simp [World.cell?, show w.heap[B]? = _ from h]
theorem ListAt.fz {w : World} {B : Nat} {u p v e n : Value} (h : ListAt w B u p v e n) (j : Nat) : w.frozen? ⟨B, j, none⟩ = false := by simp [World.frozen?, show w.heap[B]? = _ from h]
theorem ListAt.later {w w' : World} {B : Nat} {u p v e n : Value} (h : ListAt w B u p v e n) (hb : w'.heap[B]? = w.heap[B]?) : ListAt w' B u p v e n := hb.trans h
theorem ListAt.set0 {w : World} {B : Nat} {u p v e n : Value} (h : ListAt w B u p v e n) (x : Value) : ListAt (w.setCell ⟨B, 0, none⟩ x) B x p v e n := by
  have h' : w.heap[B]? = _ := h
  simp [ListAt, World.setCell, Array.getElem?_modify, h']
theorem ListAt.set1 {w : World} {B : Nat} {u p v e n : Value} (h : ListAt w B u p v e n) (x : Value) : ListAt (w.setCell ⟨B, 1, none⟩ x) B u x v e n := by
  have h' : w.heap[B]? = _ := h
  simp [ListAt, World.setCell, Array.getElem?_modify, h']
theorem ListAt.set2 {w : World} {B : Nat} {u p v e n : Value} (h : ListAt w B u p v e n) (x : Value) : ListAt (w.setCell ⟨B, 2, none⟩ x) B u p x e n := by
  have h' : w.heap[B]? = _ := h
  simp [ListAt, World.setCell, Array.getElem?_modify, h']
theorem ListAt.set3 {w : World} {B : Nat} {u p v e n : Value} (h : ListAt w B u p v e n) (x : Value) : ListAt (w.setCell ⟨B, 3, none⟩ x) B u p v x n := by
  have h' : w.heap[B]? = _ := h
  simp [ListAt, World.setCell, Array.getElem?_modify, h']
theorem ListAt.set4 {w : World} {B : Nat} {u p v e n : Value} (h : ListAt w B u p v e n) (x : Value) : ListAt (w.setCell ⟨B, 4, none⟩ x) B u p v e x := by
  have h' : w.heap[B]? = _ := h
  simp [ListAt, World.setCell, Array.getElem?_modify, h']

theorem info51 : (Try.prog.info? 51).map (fun i => (i.zero, i.size, i.bytes)) = some (some (.agg #[.pointer none, .slice none 0 0]), 2, 32) := by kernel_rfl
theorem liesBuilder : liesAt Try.prog Try.prog.depth 55 (5 / Try.prog.cellsOf 55) 1 51 1 = true := by kernel_rfl

set_option maxRecDepth 100000 in
set_option maxHeartbeats 1000000 in
theorem check34_fresh (B : Nat) (u v e n : Value) (w : World) (h : ListAt w B u (.pointer none) v e n) :
    Calls Try.prog 34 #[.pointer (some ⟨B, 1, none⟩)] w fun e' w' => e' = .returned (.tuple #[]) ∧ w' = w.setCell ⟨B, 1, none⟩ (.pointer (some ⟨B, 1, none⟩)) := by
  obtain ⟨j, hj, hz0, hz1, hz2⟩ := info_parts info51
  have c1 := h.c1
  have f1 := h.fz 1
  have hsh := h.shape
  go_enter Try.func34, Try.ntmps34
  go_wp2
  rw [Lib.run_to_unsafe w ⟨B, 1, none⟩ Try.underlying48 Try.underlying70 hj (by rw [hz1]; decide) hsh (show 1 < 5 by decide)]
  simp only [Result.andThen]
  rw [Oper.upon_value]
  go_wp2
  rw [run_callFunc_extern Try.func40 (by kernel_rfl) (by kernel_rfl) (by kernel_rfl) (e := Extern.AbiNoEscape.same) (by kernel_rfl)]
  rw [Lib.run_noEscape]
  simp only [Result.andThen]
  rw [Oper.upon_value]
  go_wp2
  rw [Lib.run_from_unsafe w ⟨B, 1, none⟩ Try.underlying70 Try.underlying48 hj hsh liesBuilder]
  simp only [Result.andThen]
  rw [Oper.upon_value]
  go_wp2
  go_end0
  exact ⟨rfl, rfl⟩

set_option maxRecDepth 100000 in
set_option maxHeartbeats 1000000 in
/-- WriteString at a fresh builder. -/
theorem write27 (B base : Nat) (u e n : Value) (l : List UInt8) (w : World) (h : ListAt w B u (.pointer none) (.slice none 0 0) e n) (hl : l.length ≤ 1048576) (hB : base ≤ w.heap.size) (hBB : base ≤ B) :
    Calls Try.prog 27 #[.pointer (some ⟨B, 1, none⟩), .string ⟨l.toArray⟩] w fun e' w' => e' = .returned (.tuple #[.int .i64 l.length, .nilIface]) ∧
      (∃ v, ListAt w' B u (.pointer (some ⟨B, 1, none⟩)) v e n ∧ w'.ownsRow w.heap.size 5 1 v l.length (Lib.byteCells l) ∧ (l = [] → v = .slice none 0 0)) ∧ Below base w w' ∧ (∀ k, k < w.heap.size → k ≠ B → w'.heap[k]? = w.heap[k]?) := by
  obtain ⟨i0, hi, hz0, hz1, hz2⟩ := info_parts info5
  have hcon := check34_fresh B u (.slice none 0 0) e n w h
  have h1 := h.set1 (.pointer (some ⟨B, 1, none⟩))
  have hlt := h.lt
  have HL := hid h1
  clear h h1
  have hcon' : Calls Try.prog 34 #[.pointer (some ⟨B, 1, none⟩)] w fun e' w' => e' = .returned (.tuple #[]) ∧ ListAt w' B u (.pointer (some ⟨B, 1, none⟩)) (.slice none 0 0) e n ∧ Below base w w' ∧ w'.heap.size = w.heap.size ∧ ∀ k, k ≠ B → w'.heap[k]? = w.heap[k]? := by
    refine hcon.mono ?_
    rintro e' w' ⟨rfl, rfl⟩
    exact ⟨rfl, HL.out, (Below.refl base w).setCell (p := ⟨B, 1, none⟩) hBB _, by simp, fun k hk => Below.heap_setCell _ _ _ k (fun e => hk e)⟩
  clear hcon
  have hsz : (⟨l.toArray⟩ : ByteArray).size = l.length := by simp [ByteArray.size]
  have h63 : 0 + (⟨l.toArray⟩ : ByteArray).size ≤ maxLen := by rw [hsz]; unfold maxLen; omega
  have h47 : 0 + (⟨l.toArray⟩ : ByteArray).size ≤ 140737488355328 := by rw [hsz]; omega
  have HZ := hid hsz
  have H63 := hid h63
  have H47 := hid h47
  clear h63 h47 hsz
  go_enter Try.func27, Try.ntmps27
  go_wp2_with (first
    | (go_at_call 34; refine hcon'.mono ?_; rintro e' w1 ⟨rfl, l1, hb1, hs1, ho1⟩; have HL1 := hid l1; have HB1 := hid hb1; have HO1 := hid ho1; have HS1 := hid hs1; have c2 := l1.c2; clear l1 hb1 ho1 hs1)
    | (at_builtin; (refine Lib.wpList_append_own_string _ rfl _ _ 49 9 rfl w.heap.size 5 i0 Try.underlying49 Try.underlying9 hi hz0 hz1 hz2 _ 0 [] rfl (World.ownsRow_nil _ _ _ _) ⟨l.toArray⟩ rfl H63.out H47.out (by rw [HS1.out]; exact Nat.le_refl _) ?_; intro v' w2 hown' hgrow hnil; have HO' := hid hown'; have HG : Hid (w1.grownBy w2 none) := hid hgrow; have HN : Hid (v' = .slice none 0 0 ↔ (Value.slice none 0 0 = .slice none 0 0 ∧ (⟨l.toArray⟩ : ByteArray).size = 0)) := hid hnil; have l2 := HL1.out.later (hgrow.block B (by rw [HS1.out]; exact hlt) (show some B ≠ (Value.slice none 0 0).ownBlock from fun e => by cases e)); have HL2 := hid l2; have f2 := l2.fz 2; have c22 := l2.c2; clear l2 hown' hgrow hnil; obtain ⟨ao, n', cap, rfl⟩ : ∃ ao n' cap, v' = .slice ao n' cap := (by rcases HO'.out.2 with ⟨hv, _⟩ | ⟨g, cap, cur, hv, _⟩ <;> exact ⟨_, _, _, hv⟩))))
  go_ret2
  have hown : w2.ownsRow w.heap.size 5 1 (.slice ao n' cap) l.length (Lib.byteCells l) := by
    have := HO'.out
    rw [HZ.out, Nat.zero_add] at this
    exact this
  refine ⟨by simp, ⟨_, HL2.out.set2 _, ?_, fun e => HN.out.2 ⟨by trivial, by rw [HZ.out, e]; rfl⟩⟩, ?_, ?_⟩
  · exact hown.kept (row := some B) ⟨rfl, rfl, rfl, by simp [World.setCell], fun k _ hk => Below.heap_setCell _ _ _ _ (fun e => hk (by simp [e]))⟩ (Or.inr (Lib.ownBlock_ne hown HL2.out (by decide)))
  · exact (HB1.out.grown HG.out (by rw [HS1.out]; exact hB) (fun k e => by cases e)).setCell (p := ⟨B, 2, none⟩) hBB _
  · intro k hk hkB
    exact (Below.heap_setCell _ _ _ k (fun e => hkB e)).trans ((HG.out.block k (by rw [HS1.out]; exact hk) (fun e => by cases e)).trans (HO1.out k hkB))

end Go.Proofs.Qxb6605841a
