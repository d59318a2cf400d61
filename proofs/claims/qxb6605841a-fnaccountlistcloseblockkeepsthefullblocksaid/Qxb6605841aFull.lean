/-
  fullBlocks.
-/
import Derived.Test.Qxb6605841aCat
namespace Go.Proofs.Qxb6605841a
open Go.RowKit
set_option linter.unusedVariables false
set_option linter.unusedSimpArgs false

/-- The texts of the first c blocks. -/
def blockVals (f : Nat → ByteArray) (c : Nat) : List Value := (List.range c).map fun m => .string ⟨(cat f (m * 4096) 4096).toArray⟩

theorem blockVals_succ (f : Nat → ByteArray) (c : Nat) : blockVals f (c + 1) = blockVals f c ++ [.string ⟨(cat f (c * 4096) 4096).toArray⟩] := by
  simp [blockVals, List.range_succ]

theorem blockVals_length (f : Nat → ByteArray) (c : Nat) : (blockVals f c).length = c := by simp [blockVals]

theorem make28 (n : Nat) (hn : n ≤ 65536) (w : World) : (Instr.makeSlice 28 (.int .i64 0) (.int .i64 (n : Int))).run Try.prog w = .ok (.slice (some ⟨w.heap.size, 0, none⟩) 0 n) (w.alloc (.cells (madeCells #[.string .empty] n) 9)) := by
  obtain ⟨i, hi, hz, hs, hb⟩ := info_parts info9
  have hr := run_make (P := Try.prog) w 28 9 i _ Try.underlying28 hi hz .i64 .i64 0 n (by omega) (by omega) (by rw [hb]; omega) (by omega)
  simp only [Int.toNat_natCast, Int.toNat_zero, hs, Nat.mul_one] at hr
  exact hr

theorem owns_below {w w' : World} {base : Nat} {e : TypeId} {size : Nat} {v : Value} {n : Nat} {xs : List Value} (h : w.ownsRow base e size v n xs) (hb : Below w.heap.size w w') : w'.ownsRow base e size v n xs := by
  refine ⟨h.1, ?_⟩
  rcases h.2 with h | ⟨g, cap, cur, h1, h2, h3, h4⟩
  · exact .inl h
  · exact .inr ⟨g, cap, cur, h1, h2, (hb.block g (Array.getElem?_eq_some_iff.1 h3).1).trans h3, h4⟩

set_option maxRecDepth 100000 in
set_option maxHeartbeats 2000000 in
theorem full14 (a : Option Addr) (n c q : Nat) (f : Nat → ByteArray) (w : World) (hn : n ≤ 65536) (hs : tot f 0 n ≤ 1048576) (hq : (q + 1) * 4096 ≤ n) (h : RowS w a n f) :
    Calls Try.prog 14 #[.slice a n c, .int .i64 q] w fun e w' => (∃ v, e = .returned v ∧ w'.ownsRow w.heap.size 9 1 v q (blockVals f q) ∧ v ≠ .slice none 0 0) ∧ Below w.heap.size w w' := by
  have H := hid h
  have HS := hid hs
  clear h hs
  obtain ⟨i0, hi, hz0, hz1, hz2⟩ := info_parts info9
  have hmk : ∀ w : World, (Instr.makeSlice 28 (.int .i64 0) (.int .i64 ((q : Int) + 1))).run Try.prog w = .ok (.slice (some ⟨w.heap.size, 0, none⟩) 0 (q + 1)) (w.alloc (.cells (madeCells #[.string .empty] (q + 1)) 9)) := make28 (q + 1) (by omega)
  go_enter Try.func14, Try.ntmps14
  go_wp2
  clear hmk
  go_loopw [5, 6] (fun s5 s6 wr => ∃ k : Nat, k ≤ q ∧ s6 = .int .i64 (k : Int) ∧ Hid (wr.ownsRow w.heap.size 9 1 s5 k (blockVals f k)) ∧ Hid (s5 ≠ .slice none 0 0) ∧ Hid (Below w.heap.size w wr)) (fun _ i _ => q - (intOf i).toNat)
  case atStart =>
    exact ⟨0, Nat.zero_le _, rfl, hid (World.ownsRow_made w _ (q + 1) (Nat.le_refl _) (by unfold maxLen; omega) (by simp [size_madeCells])), hid (by simp), hid ((Below.refl _ _).alloc (Nat.le_refl _) _)⟩
  case round =>
    obtain ⟨k, hk, rfl, HO, HN, HB⟩ := hrel
    by_cases hlt : k < q
    · have hcon : Calls Try.prog 15 #[.slice a n c, .int .i64 ((k : Int) * 4096), .int .i64 (((k : Int) + 1) * 4096)] wr fun e w' => e = .returned (.string ⟨(cat f (k * 4096) 4096).toArray⟩) ∧ Below wr.heap.size wr w' := by
        have := concat15 a n c (k * 4096) 4096 f wr hn HS.out (by omega) (by omega) (H.out.later HB.out)
        have e1 : ((k * 4096 : Nat) : Int) = (k : Int) * 4096 := by omega
        have e2 : ((k * 4096 + 4096 : Nat) : Int) = ((k : Int) + 1) * 4096 := by omega
        rw [e1, e2] at this
        exact this
      have hbv := hid (blockVals_succ f k)
      go_wp2_with (first
        | (go_at_call 15; refine hcon.mono ?_; rintro e w1 ⟨rfl, hb1⟩; have HB1 := hid hb1; clear hb1)
        | (at_builtin; refine wpList_append_own _ rfl _ _ 28 rfl w.heap.size 9 i0 (.string .empty) 1 16 Try.underlying28 hi hz0 hz1 hz2 rfl (by omega) _ k (blockVals f k) rfl ((owns_below HO.out HB1.out).alloc _) ⟨w1.heap.size, 0, none⟩ 1 1 [.string ⟨(cat f (k * 4096) 4096).toArray⟩] rfl rfl (cell_one_new _ _ _) (by simp [Value.oneCell']) (by unfold maxLen; omega) (by omega) (by simp; have := HB.out.size; have := HB1.out.size; omega) ?_; intro v' w2 hown' hgrow hnil; have HO' := hid hown'; have HG := hid hgrow; have HN' := hid hnil; clear hown' hgrow hnil))
      go_roundw
      case rel =>
        go_light
        refine ⟨k + 1, by omega, by go_num, ?_, ?_, ?_⟩
        · have := HO'.out
          rw [← hbv.out] at this
          exact this
        · exact fun e => HN.out (HN'.out.1 e).1
        · exact ((HB.out.trans (HB1.out.mono HB.out.size)).alloc (Nat.le_trans HB.out.size HB1.out.size) _).grown HG.out (by simp; have := HB.out.size; have := HB1.out.size; omega) (fun g e => (HO.out.lt g e).1)
      case measure => (simp [intOf] <;> omega)
    · have : q = k := by omega
      subst this
      go_wp2
      go_ret
      exact ⟨⟨_, rfl, HO.out, HN.out⟩, HB.out⟩

end Go.Proofs.Qxb6605841a
