/-
  FnAutnumSelfFirstUncovered: the early returns and the main road.
-/
import Derived.Test.Qxb6605806aFirst
import Derived.Test.Qxb6605806aWf
namespace Go.Proofs.Qxb6605806a
open Go.RowKit Go.Shelf
set_option linter.unusedVariables false
set_option linter.unusedSimpArgs false

set_option maxHeartbeats 2000000 in
theorem early7 (a0 a1 a2 : Option Addr) (n0 n1 n2 c0 c1 c2 : Nat) (i : Int) (w : World) (h0 : n0 ≤ 9223372036854775807) (h1 : n1 ≤ 9223372036854775807) (h2 : n2 ≤ 9223372036854775807)
    (hbad : ¬ (n0 ≤ 4096 ∧ n1 ≤ 4096 ∧ n2 ≤ 4096 ∧ n1 = n0 ∧ n2 = n0 ∧ 0 ≤ i ∧ i < (n0 : Int))) :
    Calls Try.prog 7 #[.slice a0 n0 c0, .slice a1 n1 c1, .slice a2 n2 c2, .int .i64 i] w fun e w' => e = .returned (.bool true) ∧ w = w' := by
  have hcon := bytes13 a0 a1 a2 n0 n1 n2 c0 c1 c2 (.int .i64 i) w h0 h1 h2
  by_cases q0 : n0 ≤ 4096
  · by_cases q1 : n1 ≤ 4096
    · by_cases q2 : n2 ≤ 4096
      · by_cases q3 : n1 = n0
        · by_cases q4 : n2 = n0
          · by_cases q5 : i < 0
            · clear hbad
              subst q3 q4
              go_enter Try.func7, Try.ntmps7
              go_wp2_with (go_at_call 13; refine hcon.mono ?_; rintro e w' ⟨⟨r, rfl, hr⟩, rfl⟩)
              all_goals (go_ret; exact ⟨rfl, rfl⟩)
            · have q6 : (n0 : Int) ≤ i := by
                apply Classical.byContradiction
                intro h
                exact hbad ⟨q0, q1, q2, q3, q4, by omega, by omega⟩
              clear hbad
              subst q3 q4
              go_enter Try.func7, Try.ntmps7
              go_wp2_with (go_at_call 13; refine hcon.mono ?_; rintro e w' ⟨⟨r, rfl, hr⟩, rfl⟩)
              all_goals (go_ret; exact ⟨rfl, rfl⟩)
          · clear hbad
            have q4' : ((n2 : Int) == (n0 : Int)) = false := by simp; omega
            subst q3
            go_enter Try.func7, Try.ntmps7
            go_wp2_with (go_at_call 13; refine hcon.mono ?_; rintro e w' ⟨⟨r, rfl, hr⟩, rfl⟩)
            all_goals (go_ret; exact ⟨rfl, rfl⟩)
        · clear hbad
          have q3' : ((n1 : Int) == (n0 : Int)) = false := by simp; omega
          go_enter Try.func7, Try.ntmps7
          go_wp2_with (go_at_call 13; refine hcon.mono ?_; rintro e w' ⟨⟨r, rfl, hr⟩, rfl⟩)
          all_goals (go_ret; exact ⟨rfl, rfl⟩)
      · clear hbad
        go_enter Try.func7, Try.ntmps7
        go_wp2_with (go_at_call 13; refine hcon.mono ?_; rintro e w' ⟨⟨r, rfl, hr⟩, rfl⟩)
        all_goals (go_ret; exact ⟨rfl, rfl⟩)
    · clear hbad
      go_enter Try.func7, Try.ntmps7
      go_wp2_with (go_at_call 13; refine hcon.mono ?_; rintro e w' ⟨⟨r, rfl, hr⟩, rfl⟩)
      all_goals (go_ret; exact ⟨rfl, rfl⟩)
  · clear hbad
    go_enter Try.func7, Try.ntmps7
    go_wp2_with (go_at_call 13; refine hcon.mono ?_; rintro e w' ⟨⟨r, rfl, hr⟩, rfl⟩)
    all_goals (go_ret; exact ⟨rfl, rfl⟩)

set_option maxRecDepth 100000 in
set_option maxHeartbeats 4000000 in
theorem main7 (a0 a1 a2 : Option Addr) (n c0 c1 c2 i : Nat) (F L Pa : Nat → Int) (w : World) (hn : n ≤ 4096) (hi : i < n) (hu : ∀ k, k < n → 0 ≤ F k ∧ F k ≤ 4294967295 ∧ 0 ≤ L k ∧ L k ≤ 4294967295)
    (h0 : RowI .u32 w a0 n F) (h1 : RowI .u32 w a1 n L) (h2 : RowI .i64 w a2 n Pa) (m0 : a0 = none → n = 0) (m1 : a1 = none → n = 0) (m2 : a2 = none → n = 0) :
    Calls Try.prog 7 #[.slice a0 n c0, .slice a1 n c1, .slice a2 n c2, .int .i64 i] w fun e w' => e = .returned (.bool true) ∧ Below w.heap.size w w' := by
  have H0 := hid h0
  have H1 := hid h1
  have H2 := hid h2
  have HU := hid hu
  have M0 := hid m0
  have M1 := hid m1
  have M2 := hid m2
  have i0 : (0 : Int) ≤ (i : Int) := by omega
  have i1 : (i : Int) < (n : Int) := by omega
  clear h0 h1 h2 hu m0 m1 m2
  have hcon := bytes13 a0 a1 a2 n n n c0 c1 c2 (.int .i64 i) w (by omega) (by omega) (by omega)
  go_enter Try.func7, Try.ntmps7
  go_wp2_with (go_at_call 13; refine hcon.mono ?_; rintro e w' ⟨⟨r, rfl, hr⟩, rfl⟩; obtain rfl := hr hn hn hn; clear hr)
  clear hcon
  have hcon := wf14 a0 a1 a2 n c0 c1 c2 F L Pa w hn (by omega) H0.out H1.out H2.out
  go_wp2_with (go_at_call 14; refine hcon.mono ?_; rintro e w1 ⟨⟨r, rfl, hwf⟩, hb1⟩; have HWF' := hid hwf; have HB1 := hid hb1; clear hwf hb1)
  · go_ret
    exact ⟨rfl, HB1.out⟩
  · have HWF := hid (HWF'.out (by have hr : (!r) = false := ‹_›
                                  simpa using hr))
    clear hcon HWF'
    refine (clone15 a0 n c0 F w1 hn (H0.out.later HB1.out) M0.out).mono ?_
    rintro e w2 ⟨⟨x0, d0, rfl, k0⟩, hb2⟩
    have K0 := hid k0
    have HB2 := hid (HB1.out.trans (hb2.mono HB1.out.size))
    clear k0 hb2
    go_wp2_with (go_at_call 15; refine (clone15 a1 n c1 L w2 hn (H1.out.later HB2.out) M1.out).mono ?_; rintro e w3 ⟨⟨x1, d1, rfl, k1⟩, hb3⟩)
    have K1 := hid k1
    have K0' := hid (K0.out.later hb3)
    have HB3 := hid (HB2.out.trans (hb3.mono HB2.out.size))
    clear k1 hb3 K0
    refine (clone16 a2 n c2 Pa w3 hn (H2.out.later HB3.out) M2.out).mono ?_
    rintro e w4 ⟨⟨x2, d2, rfl, k2⟩, hb4⟩
    have K2 := hid k2
    have K0 := hid (K0'.out.later hb4)
    have K1' := hid (K1.out.later hb4)
    have HB4 := hid (HB3.out.trans (hb4.mono HB3.out.size))
    clear k2 hb4 K0' K1
    go_wp2_with (go_at_call 17; refine (self17 x0 x1 x2 n d0 d1 d2 i F L Pa w4 hn hi HWF.out HU.out K0.out K1'.out K2.out).mono ?_; rintro e w5 ⟨⟨r, rfl, hA⟩, hb5⟩; have HA := hid hA; have HB5 := hid hb5; clear hA hb5)
    refine (first18 x0 x1 x2 n d0 d1 d2 i F L Pa w5 hn hi HWF.out HU.out (K0.out.later HB5.out) (K1'.out.later HB5.out) (K2.out.later HB5.out)).mono ?_
    rintro e w6 ⟨⟨s, rfl, hs⟩, hb6⟩
    obtain rfl := HA.out.unique hs
    have HBB := hid ((HB4.out.trans (HB5.out.mono HB4.out.size)).trans (hb6.mono (Nat.le_trans HB4.out.size HB5.out.size)))
    clear hs hb6
    go_wp2
    go_ret
    exact ⟨by simp, HBB.out⟩

end Go.Proofs.Qxb6605806a
