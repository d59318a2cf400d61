/-
  FnLossyClearedThenOneDrop: the walk.
-/
import Derived.Test.Qxb6605802aRow
import Derived.Deep.Light
namespace Go.Proofs.Qxb6605802a
open Go.RowKit
attribute [local go_sem] run_store_float run_store_encD

set_option maxHeartbeats 400000 in
theorem early4 (L : Nat) (a : Option Addr) (n c : Nat) (s p : Int) (w : World) (hn : n ≤ 9223372036854775807) (h : 32768 < n ∨ p < 0 ∨ (n : Int) < p) :
    Calls Try.prog 4 #[.float .f64 L, .slice a n c, .int .u64 s, .int .i64 p] w fun e w' => e = .returned (.bool true) ∧ Below w.heap.size w w' := by
  by_cases h1 : 1048576 < n
  · have hd : decide (n ≤ 1048576) = false := by simpa using h1
    clear h
    go_enter Try.func4, Try.ntmps4
    go_wp2_with (go_at_call 9; refine (bytes9 _ _ _ _ _ _ _ hn).mono ?_; rintro e w1 ⟨rfl, rfl⟩; rw [hd])
    go_ret
    exact ⟨rfl, Below.refl _ _⟩
  have hd : decide (n ≤ 1048576) = true := by simpa using h1
  by_cases h2 : 32768 < n
  · have h3 : (32768 : Int) < (n : Int) := by omega
    clear h
    go_enter Try.func4, Try.ntmps4
    go_wp2_with (go_at_call 9; refine (bytes9 _ _ _ _ _ _ _ hn).mono ?_; rintro e w1 ⟨rfl, rfl⟩; rw [hd])
    go_ret
    exact ⟨rfl, Below.refl _ _⟩
  have h3 : ¬ (32768 : Int) < (n : Int) := by omega
  by_cases h4 : p < 0
  · clear h
    go_enter Try.func4, Try.ntmps4
    go_wp2_with (go_at_call 9; refine (bytes9 _ _ _ _ _ _ _ hn).mono ?_; rintro e w1 ⟨rfl, rfl⟩; rw [hd])
    go_ret
    exact ⟨rfl, Below.refl _ _⟩
  · have h5 : (n : Int) < p := by omega
    clear h
    go_enter Try.func4, Try.ntmps4
    go_wp2_with (go_at_call 9; refine (bytes9 _ _ _ _ _ _ _ hn).mono ?_; rintro e w1 ⟨rfl, rfl⟩; rw [hd])
    go_ret
    exact ⟨rfl, Below.refl _ _⟩

theorem round_rel {w wr w1 : World} {n k q x : Nat} {d : Option (Option Int)} (HB : Below w.heap.size w wr) (HBW : Below wr.heap.size wr w1) (HG : Good (fun _ o => isDrop o.2 = false) w1 w.heap.size n)
    (HW : Good (fun _ _ => True) w1 (w.heap.size + 1) (n + 1)) (hs : w.heap.size + 1 < wr.heap.size) (hk : k < n) (hq : q < n + 1) (hd : isDrop d = false) :
    Below w.heap.size w ((((((w1.setCell ⟨wr.heap.size + 1, 0, none⟩ (.float .f64 x)).setCell ⟨wr.heap.size + 1, 1, none⟩ (encD d)).setCell ⟨w.heap.size, k * 2, none⟩ (.float .f64 x)).setCell ⟨w.heap.size, k * 2 + 1, none⟩ (encD d)).setCell ⟨w.heap.size + 1, q * 2, none⟩ (.float .f64 x)).setCell ⟨w.heap.size + 1, q * 2 + 1, none⟩ (encD d)) ∧
    Good (fun _ o => isDrop o.2 = false) ((((((w1.setCell ⟨wr.heap.size + 1, 0, none⟩ (.float .f64 x)).setCell ⟨wr.heap.size + 1, 1, none⟩ (encD d)).setCell ⟨w.heap.size, k * 2, none⟩ (.float .f64 x)).setCell ⟨w.heap.size, k * 2 + 1, none⟩ (encD d)).setCell ⟨w.heap.size + 1, q * 2, none⟩ (.float .f64 x)).setCell ⟨w.heap.size + 1, q * 2 + 1, none⟩ (encD d)) w.heap.size n ∧
    Good (fun _ _ => True) ((((((w1.setCell ⟨wr.heap.size + 1, 0, none⟩ (.float .f64 x)).setCell ⟨wr.heap.size + 1, 1, none⟩ (encD d)).setCell ⟨w.heap.size, k * 2, none⟩ (.float .f64 x)).setCell ⟨w.heap.size, k * 2 + 1, none⟩ (encD d)).setCell ⟨w.heap.size + 1, q * 2, none⟩ (.float .f64 x)).setCell ⟨w.heap.size + 1, q * 2 + 1, none⟩ (encD d)) (w.heap.size + 1) (n + 1) := by
  refine ⟨?_, ?_, ?_⟩
  · have h := HB.trans (HBW.mono (by omega))
    exact (((((h.setCell (by show w.heap.size ≤ wr.heap.size + 1; omega) _).setCell (by show w.heap.size ≤ wr.heap.size + 1; omega) _).setCell (by simp) _).setCell (by simp) _).setCell (by simp) _).setCell (by simp) _
  · have h := (HG.other (a := ⟨wr.heap.size + 1, 0, none⟩) (by show wr.heap.size + 1 ≠ w.heap.size; omega) (.float .f64 x)).other (a := ⟨wr.heap.size + 1, 1, none⟩) (by show wr.heap.size + 1 ≠ w.heap.size; omega) (encD d)
    exact ((h.store hk x d hd).other (by simp) _).other (by simp) _
  · have h := (HW.other (a := ⟨wr.heap.size + 1, 0, none⟩) (by show wr.heap.size + 1 ≠ w.heap.size + 1; omega) (.float .f64 x)).other (a := ⟨wr.heap.size + 1, 1, none⟩) (by show wr.heap.size + 1 ≠ w.heap.size + 1; omega) (encD d)
    exact ((h.other (by simp) _).other (by simp) _).store hq x d trivial

theorem delOf_ne {kd mn : Int} (h : kd ≠ 1) : isDrop (delOf kd mn) = false := by
  unfold delOf
  split
  · rfl
  · simp [isDrop]

theorem pos0_zero : pos0 0 = false := by kernel_rfl

set_option maxHeartbeats 1000000 in
theorem main4 (L : Nat) (a : Option Addr) (n c : Nat) (s : Int) (p : Nat) (f : Nat → Nat × Int × Int) (w : World) (hn : n ≤ 32768) (hp : p ≤ n) (h : RowZ w a n f) :
    Calls Try.prog 4 #[.float .f64 L, .slice a n c, .int .u64 s, .int .i64 p] w fun e w' => e = .returned (.bool true) ∧ Below w.heap.size w w' := by
  have hd : decide (n ≤ 1048576) = true := by simp; omega
  have hm1 := make28 n (by omega)
  have hm2 := make28 (n + 1) (by omega)
  rw [show ((n + 1 : Nat) : Int) = (n : Int) + 1 from by omega] at hm2
  have hB1 : decide ((32768 : Int) < (n : Int)) = false := by simp; omega
  have hB2 : decide ((p : Int) < 0) = false := by simp
  have hB3 : decide (n < p) = false := by simp; omega
  have H := hid h
  clear h
  go_enter Try.func4, Try.ntmps4
  go_wp2_with (go_at_call 9; refine (bytes9 _ _ _ _ _ _ _ (by omega)).mono ?_; rintro e w1 ⟨rfl, rfl⟩; rw [hd])
  go_loopw [12, 13, 14] (fun i _ _ wr => ∃ k : Nat, k ≤ n ∧ i = .int .i64 k ∧ Hid (Below w.heap.size w wr) ∧ Hid (Good (fun _ o => isDrop o.2 = false) wr w.heap.size n) ∧ Hid (Good (fun _ _ => True) wr (w.heap.size + 1) (n + 1))) (fun i _ _ _ => n - (intOf i).toNat)
  case atStart =>
    refine ⟨0, Nat.zero_le _, rfl, ((Below.refl _ _).alloc (Nat.le_refl _) _).alloc (by simp) _, hid ((Good.made (Q := fun _ o => isDrop o.2 = false) w n (fun _ => rfl)).later ((Below.refl _ _).alloc (Nat.le_refl _) _)), hid ?_⟩
    have := Good.made (Q := fun _ _ => True) (w.alloc (.cells (zero2 n) 39)) (n + 1) (fun _ => trivial)
    simpa using this
  case round =>
    obtain ⟨k, hk, rfl, HB, HG, HW⟩ := hrel
    by_cases hlt : k < n
    · rcases H.out with h0 | ⟨b, off, rfl, hb, hc⟩
      · omega
      have c0 : wr.cell? ⟨b, off + k * 3, none⟩ = some (.float .f64 (f k).1) := (HB.out.cell (p := ⟨b, off + k * 3, none⟩) hb).trans (hc k hlt).1
      have c1 : wr.cell? ⟨b, off + k * 3 + 1, none⟩ = some (.int .u8 (f k).2.1) := (HB.out.cell (p := ⟨b, off + k * 3 + 1, none⟩) hb).trans (hc k hlt).2.1
      have c2 : wr.cell? ⟨b, off + k * 3 + 2, none⟩ = some (.int .i64 (f k).2.2) := (HB.out.cell (p := ⟨b, off + k * 3 + 2, none⟩) hb).trans (hc k hlt).2.2
      clear hc hm1 hm2
      generalize f k = z at c0 c1 c2
      obtain ⟨x, kd, mn⟩ := z
      have hsz := HW.out.1
      by_cases hk1 : kd = 1
      · subst hk1
        go_wp2_with fail
        refine (exp10 _ _ _).mono ?_
        rintro e w1 ⟨rfl, hb1⟩
        have hbw : Below wr.heap.size wr w1 := (((Below.refl _ _).alloc (Nat.le_refl _) _).alloc (by simp) _).trans (hb1.mono (by simp; omega))
        obtain ⟨hc1, hf1⟩ := bcell hb1
        have HG1 := hid (HG.out.later hbw)
        have HW1 := hid (HW.out.later hbw)
        obtain ⟨o, hQ, g0, g1, g2, g3⟩ := HG1.out.2 k hlt
        clear hQ
        have hz1 : wr.heap.size + 1 < w1.heap.size := by have := hb1.size; simp at this; omega
        have HBW := hid hbw
        clear hbw hb1 c0 c1 c2
        by_cases hkp : k < p
        · obtain ⟨o2, hQ2, i0, i1, i2, i3⟩ := HW1.out.2 k (by omega)
          clear hQ2
          go_wp2_with fail
          go_roundw
          case rel =>
            go_light
            obtain ⟨r1, r2, r3⟩ := round_rel (k := k) (q := k) (x := x) (d := some (some 0)) HB.out HBW.out HG1.out HW1.out hsz hlt (by omega) rfl
            exact ⟨k + 1, by omega, by go_num, hid r1, hid r2, hid r3⟩
          case measure => simp [intOf]; omega
        · obtain ⟨o2, hQ2, i0, i1, i2, i3⟩ := HW1.out.2 (k + 1) (by omega)
          clear hQ2
          go_wp2_with fail
          go_roundw
          case rel =>
            go_light
            obtain ⟨r1, r2, r3⟩ := round_rel (k := k) (q := k + 1) (x := x) (d := some (some 0)) HB.out HBW.out HG1.out HW1.out hsz hlt (by omega) rfl
            exact ⟨k + 1, by omega, by go_num, hid r1, hid r2, hid r3⟩
          case measure => simp [intOf]; omega
      · have hkb : (kd == 1) = false := by simpa using hk1
        go_wp2_with fail
        refine (one11 _ _ _ _).mono ?_
        rintro e w1 ⟨rfl, hb1⟩
        have hbw : Below wr.heap.size wr w1 := (((Below.refl _ _).alloc (Nat.le_refl _) _).alloc (by simp) _).trans (hb1.mono (by simp; omega))
        obtain ⟨hc1, hf1⟩ := bcell hb1
        have HG1 := hid (HG.out.later hbw)
        have HW1 := hid (HW.out.later hbw)
        obtain ⟨o, hQ, g0, g1, g2, g3⟩ := HG1.out.2 k hlt
        clear hQ
        have hz1 : wr.heap.size + 1 < w1.heap.size := by have := hb1.size; simp at this; omega
        have HBW := hid hbw
        have HD := hid (delOf_ne (mn := mn) hk1)
        generalize delOf kd mn = d at HD ⊢
        clear hbw hb1 c0 c1 c2
        by_cases hkp : k < p
        · obtain ⟨o2, hQ2, i0, i1, i2, i3⟩ := HW1.out.2 k (by omega)
          clear hQ2
          go_wp2_with fail
          go_roundw
          case rel =>
            go_light
            obtain ⟨r1, r2, r3⟩ := round_rel (k := k) (q := k) (x := x) (d := d) HB.out HBW.out HG1.out HW1.out hsz hlt (by omega) HD.out
            exact ⟨k + 1, by omega, by go_num, hid r1, hid r2, hid r3⟩
          case measure => simp [intOf]; omega
        · obtain ⟨o2, hQ2, i0, i1, i2, i3⟩ := HW1.out.2 (k + 1) (by omega)
          clear hQ2
          go_wp2_with fail
          go_roundw
          case rel =>
            go_light
            obtain ⟨r1, r2, r3⟩ := round_rel (k := k) (q := k + 1) (x := x) (d := d) HB.out HBW.out HG1.out HW1.out hsz hlt (by omega) HD.out
            exact ⟨k + 1, by omega, by go_num, hid r1, hid r2, hid r3⟩
          case measure => simp [intOf]; omega
    · have hsz := HW.out.1
      clear hm1 hm2
      go_wp2_with fail
      refine (drop12 _ _).mono ?_
      rintro e w1 ⟨rfl, hb1⟩
      have HG1 := hid (HG.out.later hb1)
      have HW1 := hid (HW.out.later hb1)
      obtain ⟨o2, hQ2, i0, i1, i2, i3⟩ := HW1.out.2 p (by omega)
      clear hQ2
      have hbel := HB.out.trans (hb1.mono HB.out.size)
      have HG2 := hid ((HG1.out.other (a := ⟨w.heap.size + 1, p * 2, none⟩) (by simp) (.float .f64 4607182418800017408)).other (a := ⟨w.heap.size + 1, p * 2 + 1, none⟩) (by simp) (encD (some none)))
      have HW2 := hid (HW1.out.turn (Q' := fun j o => j = p → isDrop o.2 = true) (k := p) (by omega) 4607182418800017408 (some none) (fun _ => rfl) (fun j o hj _ e => absurd e hj))
      have HB2 := hid ((hbel.setCell (p := ⟨w.heap.size + 1, p * 2, none⟩) (by simp) (.float .f64 4607182418800017408)).setCell (p := ⟨w.heap.size + 1, p * 2 + 1, none⟩) (by simp) (encD (some none)))
      go_wp2_with fail
      have hz2 : w.heap.size + 1 < w1.heap.size := HW1.out.1
      clear i0 i1 i2 i3 hb1 HG1 HW1 HG HW HB hbel
      generalize ((w1.setCell ⟨w.heap.size + 1, p * 2, none⟩ (.float .f64 4607182418800017408)).setCell ⟨w.heap.size + 1, p * 2 + 1, none⟩ (encD (some none))) = w2 at HG2 HW2 HB2 ⊢
      obtain ⟨z1, hz1, hr1⟩ := HG2.out.rowO
      have HA := hid (anyDrop_false hz1)
      have HR1 := hid hr1
      clear hz1 hr1
      refine (lossy8 _ _ _ _ _ z1 _ (by omega) (HR1.out.later ((Below.refl _ _).alloc (Nat.le_refl _) _))).mono ?_
      rintro e w3 ⟨rfl, hb3⟩
      rw [HA.out, pos0_zero]
      obtain ⟨z2, hz2', hr2⟩ := HW2.out.rowO
      have HA2 := hid (anyDrop_true (k := p) (n := n + 1) (by omega) (hz2' p (by omega) rfl))
      have hb4 : Below w2.heap.size w2 w3 := ((Below.refl _ _).alloc (Nat.le_refl _) _).trans (hb3.mono (by simp))
      have HR2 := hid (hr2.later hb4)
      have HB4 := hid (HB2.out.trans (hb4.mono HB2.out.size))
      clear hz2' hr2 hb4 hb3
      go_wp2_with fail
      refine (lossy8 _ _ _ _ _ z2 _ (by omega) (HR2.out.later ((Below.refl _ _).alloc (Nat.le_refl _) _))).mono ?_
      rintro e w5 ⟨rfl, hb5⟩
      rw [HA2.out, pos0_zero]
      have HB5 := hid ((HB4.out.alloc HB4.out.size _).trans (hb5.mono (by simp; have := HB4.out.size; omega)))
      clear hb5
      go_wp2_with fail
      refine (lossy8 _ _ _ _ _ (fun _ => (0, none)) _ (by omega) (.inl rfl)).mono ?_
      rintro e w6 ⟨rfl, hb6⟩
      go_wp2_with fail
      go_ret
      refine ⟨?_, (HB5.out.alloc HB5.out.size _).trans (hb6.mono (by simp; have := HB5.out.size; omega))⟩
      show Ending.returned (.bool ((pos0 L || anyDrop (fun _ => (0, none)) 0) == pos0 L)) = _
      simp [anyDrop]

end Go.Proofs.Qxb6605802a
