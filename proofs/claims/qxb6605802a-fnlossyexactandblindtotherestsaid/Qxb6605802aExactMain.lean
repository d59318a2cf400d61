/-
  FnLossyExactAndBlindToTheRest: the walk of the main way.
-/
import Derived.Test.Qxb6605802aExactWalk
namespace Go.Proofs.Qxb6605802a
open Go.RowKit
set_option linter.unusedVariables false
set_option linter.unusedSimpArgs false
attribute [local go_sem] run_store_float run_store_encD unary_negf

set_option maxHeartbeats 1000000 in
theorem main3 (L : Nat) (a : Option Addr) (n c : Nat) (s : Int) (f : Nat → Nat × Int × Int) (w : World) (hn : n ≤ 32768) (h : RowZ w a n f) (hnil : a = none → n = 0) :
    Calls Try.prog 3 #[.float .f64 L, .slice a n c, .int .u64 s] w fun e w' => e = .returned (.bool true) ∧ Below w.heap.size w w' := by
  have hd : decide (n ≤ 1048576) = true := by simp; omega
  have hB1 : decide ((32768 : Int) < (n : Int)) = false := by simp; omega
  have H := hid h
  have HN := hid hnil
  clear h hnil
  go_enter Try.func3, Try.ntmps3
  go_wp2_with (go_at_call 5; refine (bytes5 _ _ _ _ _ _ (by omega)).mono ?_; rintro e w1 ⟨rfl, rfl⟩; rw [hd])
  refine (expect6 _ _ _ _ f _ hn H.out).mono ?_
  rintro e w1 ⟨⟨ok, t, rfl⟩, hb1⟩
  have H1 := hid (H.out.later hb1)
  go_wp2_with fail
  refine (build7 _ _ _ f _ hn H1.out HN.out).mono ?_
  rintro e w2 ⟨⟨a', c', rfl, hr2⟩, hb2⟩
  have hb12 : Below w.heap.size w w2 := hb1.trans (hb2.mono hb1.size)
  have H2 := hid (H.out.later hb12)
  have HR := hid hr2
  clear hr2 hb1 hb2 H1
  go_wp2_with fail
  refine (lossy8 _ _ _ _ _ _ _ (by omega) (HR.out.later ((Below.refl _ _).alloc (Nat.le_refl _) _))).mono ?_
  rintro e w3 ⟨rfl, hb3⟩
  rw [anyDrop_out]
  have hb23 : Below w2.heap.size w2 w3 := ((Below.refl _ _).alloc (Nat.le_refl _) _).trans (hb3.mono (by simp))
  have HB3 := hid (hb12.trans (hb23.mono hb12.size))
  have H3 := hid (H2.out.later hb23)
  clear hb3 hb23 hb12 H2 HR
  have hm1 := make23 n (by omega)
  generalize hwant : (pos0 L || anyOne f n) = want
  have HWANT := hid hwant
  clear hwant
  go_wp2_with fail
  go_loopw [12, 13] (fun i _ wr => ∃ k : Nat, k ≤ n ∧ i = .int .i64 k ∧ Hid (Below w3.heap.size w3 wr) ∧ Hid (GoodZ (fun j z => j < k → (z.2.1 == 1) = ((f j).2.1 == 1)) wr w3.heap.size n)) (fun i _ _ => n - (intOf i).toNat)
  case atStart =>
    exact ⟨0, Nat.zero_le _, rfl, (Below.refl _ _).alloc (Nat.le_refl _) _, hid (GoodZ.made (Q := fun j z => j < 0 → (z.2.1 == 1) = ((f j).2.1 == 1)) w3 n (fun j h => absurd h (Nat.not_lt_zero _)))⟩
  case round =>
    obtain ⟨k, hk, rfl, HB, HG⟩ := hrel
    clear hm1
    by_cases hlt : k < n
    · rcases H3.out with h0 | ⟨b, off, rfl, hb, hc⟩
      · omega
      have c0 : wr.cell? ⟨b, off + k * 3, none⟩ = some (.float .f64 (f k).1) := (HB.out.cell (p := ⟨b, off + k * 3, none⟩) hb).trans (hc k hlt).1
      have c1 : wr.cell? ⟨b, off + k * 3 + 1, none⟩ = some (.int .u8 (f k).2.1) := (HB.out.cell (p := ⟨b, off + k * 3 + 1, none⟩) hb).trans (hc k hlt).2.1
      have c2 : wr.cell? ⟨b, off + k * 3 + 2, none⟩ = some (.int .i64 (f k).2.2) := (HB.out.cell (p := ⟨b, off + k * 3 + 2, none⟩) hb).trans (hc k hlt).2.2
      clear hc
      obtain ⟨z, hQ, g0, g1, g2, g3, g4, g5⟩ := HG.out.2 k hlt
      clear hQ
      generalize hf : f k = fk at c0 c1 c2
      have HF := hid hf
      clear hf
      obtain ⟨x, kd, mn⟩ := fk
      have hi1 : (0 : Int) ≤ (k : Int) := by omega
      have hi2 : (k : Int) < (n : Int) := by omega
      by_cases hk0 : kd = 0
      · subst hk0
        go_wp2_with fail
        go_region
        all_goals go_wp2_with fail
        go_roundw
        case rel =>
          go_light
          refine ⟨k + 1, by omega, by go_num, hid ?_, hid ?_⟩
          · exact (((HB.out.drew).setCell (by simp) _).setCell (by simp) _).setCell (by simp) _
          · exact GoodZ.drew (HG.out.turn (Q' := fun j z => j < k + 1 → (z.2.1 == 1) = ((f j).2.1 == 1)) hlt (_, 2, _) (fun _ => by first | (rw [HF.out]; done) | (rw [HF.out]; simp_all)) (fun j o hj q hlt' => q (by omega)))
        case measure => simp [intOf]; omega
      have hkb0 : (kd == 0) = false := by simpa using hk0
      by_cases hk1 : kd = 1
      · subst hk1
        go_wp2_with fail
        go_region
        all_goals go_wp2_with fail
        go_roundw
        case rel =>
          go_light
          refine ⟨k + 1, by omega, by go_num, hid ?_, hid ?_⟩
          · exact (((HB.out.drew).setCell (by simp) _).setCell (by simp) _).setCell (by simp) _
          · exact GoodZ.drew (HG.out.turn (Q' := fun j z => j < k + 1 → (z.2.1 == 1) = ((f j).2.1 == 1)) hlt (_, 1, _) (fun _ => by first | (rw [HF.out]; done) | (rw [HF.out]; simp_all)) (fun j o hj q hlt' => q (by omega)))
        case measure => simp [intOf]; omega
      · have hkb1 : (kd != 1) = true := by simpa using hk1
        go_wp2_with fail
        go_region
        all_goals go_wp2_with fail
        go_roundw
        case rel =>
          go_light
          refine ⟨k + 1, by omega, by go_num, hid ?_, hid ?_⟩
          · exact (((HB.out.drew).setCell (by simp) _).setCell (by simp) _).setCell (by simp) _
          · exact GoodZ.drew (HG.out.turn (Q' := fun j z => j < k + 1 → (z.2.1 == 1) = ((f j).2.1 == 1)) hlt (_, 0, _) (fun _ => by first | (rw [HF.out]; done) | (rw [HF.out]; simp_all)) (fun j o hj q hlt' => q (by omega)))
        case measure => simp [intOf]; omega
    · have : k = n := by omega
      subst this
      obtain ⟨g, hg, hrow⟩ := HG.out.rowZ
      have HR := hid hrow
      have HO := hid (anyOne_congr (f := g) (g := f) (fun j hj => hg j hj hj))
      clear hg hrow
      go_wp2_with fail
      refine (build7 _ _ _ g _ hn HR.out (fun h => by cases h)).mono ?_
      rintro e w4 ⟨⟨a2, c2, rfl, hr4⟩, hb4⟩
      have HR4 := hid hr4
      have HB4 := hid (HB.out.trans (hb4.mono HB.out.size))
      clear hr4 hb4
      go_wp2_with fail
      refine (lossy8 _ _ _ _ _ _ _ (by omega) (HR4.out.later ((Below.refl _ _).alloc (Nat.le_refl _) _))).mono ?_
      rintro e w5 ⟨rfl, hb5⟩
      rw [anyDrop_out, HO.out, HWANT.out]
      go_wp2_with fail
      go_ret
      refine ⟨by simp, ?_⟩
      have hb45 : Below w4.heap.size w4 w5 := ((Below.refl _ _).alloc (Nat.le_refl _) _).trans (hb5.mono (by simp))
      have h35 := HB4.out.trans (hb45.mono HB4.out.size)
      exact HB3.out.trans (h35.mono HB3.out.size)

end Go.Proofs.Qxb6605802a
