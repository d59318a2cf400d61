/-
  zzAllCovered: where every number is covered, it answers true.
-/
import Derived.Test.Qxb6605806aSpans
namespace Go.Proofs.Qxb6605806a
open Go.RowKit Go.Shelf
set_option linter.unusedVariables false
set_option linter.unusedSimpArgs false

set_option maxRecDepth 100000 in
set_option maxHeartbeats 2000000 in
theorem all20 (a0 a1 a2 : Option Addr) (n c0 c1 c2 i : Nat) (F L Pa : Nat → Int) (w : World) (hn : n ≤ 4096) (hi : i < n) (hwf : WF n F L Pa) (hu : ∀ k, k < n → 0 ≤ F k ∧ F k ≤ 4294967295 ∧ 0 ≤ L k ∧ L k ≤ 4294967295)
    (h0 : RowI .u32 w a0 n F) (h1 : RowI .u32 w a1 n L) (h2 : RowI .i64 w a2 n Pa) (hall : ∀ y, F i ≤ y → y ≤ L i → Cov n F L i y) :
    Calls Try.prog 20 #[.slice a0 n c0, .slice a1 n c1, .slice a2 n c2, .int .i64 i] w fun e w' => e = .returned (.bool true) ∧ w = w' := by
  have H2 := hid h2
  obtain ⟨b0, o0, rfl, l0, r0⟩ := h0.at (by omega)
  obtain ⟨b1, o1, rfl, l1, r1⟩ := h1.at (by omega)
  have HWF := hid hwf
  have HU := hid hu
  have HA := hid hall
  have R0 := hid r0
  have R1 := hid r1
  have g0 := r0 i hi
  have g1 := r1 i hi
  obtain ⟨u1, u2, u3, u4⟩ := hu i hi
  have i0 : (0 : Int) ≤ (i : Int) := by omega
  have i1 : (i : Int) < (n : Int) := by omega
  clear hwf hu r0 r1 h0 h1 h2 hall
  go_enter Try.func20, Try.ntmps20
  go_wp2
  go_loop [10, 12] (fun s10 s12 => ∃ (nx : Int) (d : Nat), s10 = .int .u64 nx ∧ s12 = .int .i64 d ∧ i < d ∧ d ≤ n ∧ 0 ≤ nx ∧ nx ≤ 4294967296 ∧ Hid (Sweep F L i d nx)) (fun _ s12 => n - (intOf s12).toNat)
  case atStart => exact ⟨F i, i + 1, rfl, by go_num, by omega, by omega, u1, by omega, hid (sweep_start F L i)⟩
  case round =>
    obtain ⟨nx, d, rfl, rfl, hid1, hdn, hx0, hx1, HS⟩ := hrel
    clear g0 g1
    by_cases hd : d < n
    · have g0 := R0.out d hd
      have g1 := R1.out d hd
      obtain ⟨v1, v2, v3, v4⟩ := HU.out d hd
      have hcon := inside24 a2 n c2 F L Pa i d w hn H2.out HWF.out hid1 hd
      have d0 : (0 : Int) ≤ (d : Int) := by omega
      have d1 : (d : Int) < (n : Int) := by omega
      by_cases hin : F d ≤ L i
      · have hin' : decide (F d ≤ L i) = true := by simpa using hin
        have hng := sweep_nogap HWF.out HS.out hd hin HA.out
        have hng' : ¬ nx < F d := by omega
        by_cases hk : L d < nx
        · have HK := hid (sweep_keep HS.out hk)
          have hk' : ¬ nx < L d + 1 := by omega
          go_wp2_with (go_at_call 24; refine hcon.mono ?_; rintro e w' ⟨rfl, rfl⟩)
          go_round
          case rel => exact ⟨nx, d + 1, rfl, by go_num, by omega, by omega, hx0, hx1, HK⟩
          case measure => simp [intOf]; omega
        · have HK := hid (sweep_take HS.out (show nx ≤ L d by omega))
          have hk' : nx < L d + 1 := by omega
          go_wp2_with (go_at_call 24; refine hcon.mono ?_; rintro e w' ⟨rfl, rfl⟩)
          go_round
          case rel => exact ⟨L d + 1, d + 1, by go_num, by go_num, by omega, by omega, by omega, by omega, HK⟩
          case measure => simp [intOf]; omega
      · have hin' : decide (F d ≤ L i) = false := by simpa using hin
        have HK := hid (sweep_skip HS.out hin)
        go_wp2_with (go_at_call 24; refine hcon.mono ?_; rintro e w' ⟨rfl, rfl⟩)
        go_round
        case rel => exact ⟨nx, d + 1, rfl, by go_num, by omega, by omega, hx0, hx1, HK⟩
        case measure => simp [intOf]; omega
    · have : d = n := by omega
      subst this
      have hend := sweep_end HS.out HA.out
      go_wp2
      go_ret
      exact ⟨by simp [hend], rfl⟩

end Go.Proofs.Qxb6605806a
