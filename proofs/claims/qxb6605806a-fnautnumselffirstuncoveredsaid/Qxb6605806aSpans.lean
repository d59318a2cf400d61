/-
  ZZautnumSelf: the spans are made and filled; autnumSelf is called.
-/
import Derived.Test.Qxb6605806aSelf
namespace Go.Proofs.Qxb6605806a
open Go.RowKit Go.Shelf
set_option linter.unusedVariables false
set_option linter.unusedSimpArgs false

theorem info44 : (Try.prog.info? 44).map (fun i => (i.zero.isSome, i.size, i.bytes)) = some (true, 7, 56) := by kernel_rfl

/-- The spans of the call's own, the first k of which are filled. -/
def GoodS (k : Nat) (F L Pa : Nat → Int) (w : World) (S n : Nat) : Prop :=
  S < w.heap.size ∧ ∀ j, j < n → (∀ o, o < 7 → (∃ v, w.cell? ⟨S, j * 7 + o, none⟩ = some v) ∧ w.frozen? ⟨S, j * 7 + o, none⟩ = false) ∧
    (j < k → w.cell? ⟨S, j * 7, none⟩ = some (.int .u32 (F j)) ∧ w.cell? ⟨S, j * 7 + 1, none⟩ = some (.int .u32 (L j)) ∧ w.cell? ⟨S, j * 7 + 6, none⟩ = some (.int .i64 (Pa j)))

theorem make38 (n : Nat) (hn : n ≤ 4096) (F L Pa : Nat → Int) : ∃ z : Array Value, (∀ w : World, (Instr.makeSlice 38 (.int .i64 (n : Int)) (.int .i64 (n : Int))).run Try.prog w = .ok (.slice (some ⟨w.heap.size, 0, none⟩) n n) (w.alloc (.cells (madeCells z (n * 7)) 44))) ∧
    ∀ w : World, GoodS 0 F L Pa (w.alloc (.cells (madeCells z (n * 7)) 44)) w.heap.size n := by
  obtain ⟨i, hi, h⟩ := Option.map_eq_some_iff.1 info44
  simp only [Prod.mk.injEq] at h
  obtain ⟨hz, hs, hb⟩ := h
  obtain ⟨z, hz⟩ := Option.isSome_iff_exists.1 hz
  refine ⟨z.cells, fun w => ?_, fun w => ⟨by simp, fun j hj => ⟨fun o ho => ⟨⟨z.cells[(j * 7 + o) % z.cells.size]!, ?_⟩, by simp⟩, fun h => absurd h (Nat.not_lt_zero _)⟩⟩⟩
  · have hr := run_make (P := Try.prog) w 38 44 i z Try.underlying38 hi hz .i64 .i64 n n (by omega) (Int.le_refl _) (by rw [hb]; omega) (by omega)
    simpa only [Int.toNat_natCast, hs] using hr
  · have : j * 7 + o < n * 7 := by omega
    simp [madeCells, this]

theorem GoodS.store {k : Nat} {F L Pa : Nat → Int} {w : World} {S n : Nat} (h : GoodS k F L Pa w S n) (hk : k < n) :
    GoodS (k + 1) F L Pa (((w.setCell ⟨S, k * 7, none⟩ (.int .u32 (F k))).setCell ⟨S, k * 7 + 1, none⟩ (.int .u32 (L k))).setCell ⟨S, k * 7 + 6, none⟩ (.int .i64 (Pa k))) S n := by
  refine ⟨by simpa using h.1, fun j hj => ?_⟩
  obtain ⟨c0, c1⟩ := h.2 j hj
  have hne : ∀ (p q : Nat), p ≠ q → (⟨S, p, none⟩ : Addr) ≠ ⟨S, q, none⟩ := fun p q hpq e => by injection e; omega
  have keep : ∀ (w : World) (p q : Nat) (v u : Value), w.cell? ⟨S, q, none⟩ = some v → ∃ v', (w.setCell ⟨S, p, none⟩ u).cell? ⟨S, q, none⟩ = some v' := fun w p q v u hv => by
    by_cases e : p = q
    · subst e; exact ⟨u, World.cell?_setCell_same w ⟨S, p, none⟩ u hv⟩
    · exact ⟨v, (World.cell?_setCell_other _ _ _ _ (hne _ _ e)).trans hv⟩
  refine ⟨fun o ho => ⟨?_, by simpa using (c0 o ho).2⟩, fun hj' => ?_⟩
  · obtain ⟨v, h0⟩ := (c0 o ho).1
    obtain ⟨v1, h1⟩ := keep _ (k * 7) _ _ (.int .u32 (F k)) h0
    obtain ⟨v2, h2⟩ := keep _ (k * 7 + 1) _ _ (.int .u32 (L k)) h1
    exact keep _ (k * 7 + 6) _ _ (.int .i64 (Pa k)) h2
  · by_cases e : j = k
    · subst e
      obtain ⟨v0, g0⟩ := (c0 0 (by omega)).1
      obtain ⟨v1, g1⟩ := (c0 1 (by omega)).1
      obtain ⟨v6, g6⟩ := (c0 6 (by omega)).1
      refine ⟨?_, ?_, ?_⟩
      · rw [World.cell?_setCell_other _ _ _ _ (hne _ _ (by omega)), World.cell?_setCell_other _ _ _ _ (hne _ _ (by omega))]
        exact World.cell?_setCell_same w ⟨S, j * 7, none⟩ _ g0
      · rw [World.cell?_setCell_other _ _ _ _ (hne _ _ (by omega))]
        exact World.cell?_setCell_same _ ⟨S, j * 7 + 1, none⟩ _ ((World.cell?_setCell_other _ _ _ _ (hne _ _ (by omega))).trans g1)
      · exact World.cell?_setCell_same _ ⟨S, j * 7 + 6, none⟩ _ ((World.cell?_setCell_other _ _ _ _ (hne _ _ (by omega))).trans ((World.cell?_setCell_other _ _ _ _ (hne _ _ (by omega))).trans g6))
    · obtain ⟨q0, q1, q2⟩ := c1 (by omega)
      refine ⟨?_, ?_, ?_⟩
      · rw [World.cell?_setCell_other _ _ _ _ (hne _ _ (by omega)), World.cell?_setCell_other _ _ _ _ (hne _ _ (by omega)), World.cell?_setCell_other _ _ _ _ (hne _ _ (by omega))]; exact q0
      · rw [World.cell?_setCell_other _ _ _ _ (hne _ _ (by omega)), World.cell?_setCell_other _ _ _ _ (hne _ _ (by omega)), World.cell?_setCell_other _ _ _ _ (hne _ _ (by omega))]; exact q1
      · rw [World.cell?_setCell_other _ _ _ _ (hne _ _ (by omega)), World.cell?_setCell_other _ _ _ _ (hne _ _ (by omega)), World.cell?_setCell_other _ _ _ _ (hne _ _ (by omega))]; exact q2

theorem GoodS.spans {F L Pa : Nat → Int} {w : World} {S n : Nat} (h : GoodS n F L Pa w S n) : SpansAt w S n F L Pa := ⟨h.1, fun k hk => (h.2 k hk).2 hk⟩

theorem below3 {B S : Nat} {w wr : World} (h : Below B w wr) (hS : B ≤ S) (o1 o2 o3 : Nat) (v1 v2 v3 : Value) :
    Below B w (((wr.setCell ⟨S, o1, none⟩ v1).setCell ⟨S, o2, none⟩ v2).setCell ⟨S, o3, none⟩ v3) :=
  ((h.setCell (p := ⟨S, o1, none⟩) hS v1).setCell (p := ⟨S, o2, none⟩) hS v2).setCell (p := ⟨S, o3, none⟩) hS v3

set_option maxRecDepth 100000 in
set_option maxHeartbeats 2000000 in
theorem self17 (a0 a1 a2 : Option Addr) (n c0 c1 c2 i : Nat) (F L Pa : Nat → Int) (w : World) (hn : n ≤ 4096) (hi : i < n) (hwf : WF n F L Pa) (hu : ∀ k, k < n → 0 ≤ F k ∧ F k ≤ 4294967295 ∧ 0 ≤ L k ∧ L k ≤ 4294967295)
    (h0 : RowI .u32 w a0 n F) (h1 : RowI .u32 w a1 n L) (h2 : RowI .i64 w a2 n Pa) :
    Calls Try.prog 17 #[.slice a0 n c0, .slice a1 n c1, .slice a2 n c2, .int .i64 i] w fun e w' => (∃ r, e = .returned (.int .u32 r) ∧ Ans n F L i r) ∧ Below w.heap.size w w' := by
  obtain ⟨b0, o0, rfl, l0, r0⟩ := h0.at (by omega)
  obtain ⟨b1, o1, rfl, l1, r1⟩ := h1.at (by omega)
  obtain ⟨b2, o2, rfl, l2, r2⟩ := h2.at (by omega)
  have HWF := hid hwf
  have HU := hid hu
  have R0 := hid r0
  have R1 := hid r1
  have R2 := hid r2
  clear hwf hu r0 r1 r2 h0 h1 h2
  obtain ⟨z, hm1, hm2⟩ := make38 n hn F L Pa
  have HM := hid hm2
  clear hm2
  go_enter Try.func17, Try.ntmps17
  go_wp2
  go_loopw [16] (fun i wr => ∃ k : Nat, k ≤ n ∧ i = .int .i64 k ∧ Hid (Below w.heap.size w wr) ∧ Hid (GoodS k F L Pa wr w.heap.size n)) (fun i _ => n - (intOf i).toNat)
  case atStart =>
    exact ⟨0, Nat.zero_le _, rfl, (Below.refl _ _).alloc (Nat.le_refl _) _, hid (HM.out w)⟩
  case round =>
    obtain ⟨k, hk, rfl, HB, HG⟩ := hrel
    clear hm1
    by_cases hlt : k < n
    · have g0 : wr.cell? ⟨b0, o0 + k, none⟩ = some (.int .u32 (F k)) := (HB.out.cell (p := ⟨b0, o0 + k, none⟩) l0).trans (R0.out k hlt)
      have g1 : wr.cell? ⟨b1, o1 + k, none⟩ = some (.int .u32 (L k)) := (HB.out.cell (p := ⟨b1, o1 + k, none⟩) l1).trans (R1.out k hlt)
      have g2 : wr.cell? ⟨b2, o2 + k, none⟩ = some (.int .i64 (Pa k)) := (HB.out.cell (p := ⟨b2, o2 + k, none⟩) l2).trans (R2.out k hlt)
      have HC := hid (HG.out.2 k hlt).1
      obtain ⟨⟨v0, p0⟩, f0⟩ := HC.out 0 (by omega)
      obtain ⟨⟨v1, p1⟩, f1⟩ := HC.out 1 (by omega)
      obtain ⟨⟨v6, p6⟩, f6⟩ := HC.out 6 (by omega)
      simp only [Nat.add_zero] at p0 f0
      go_wp2
      go_roundw
      case rel =>
        go_light
        refine ⟨k + 1, by omega, by go_num, ?_, ?_⟩
        · exact hid (below3 HB.out (Nat.le_refl _) _ _ _ _ _ _)
        · exact hid (HG.out.store hlt)
      case measure => simp [intOf]; omega
    · have : k = n := by omega
      subst this
      have hcon := (callsIn_wide (n := 5)).1 (self23 w.heap.size k i F L Pa wr hn hi HWF.out HU.out HG.out.spans)
      go_wp2_with (go_at_call 23; refine hcon.mono ?_; rintro e w' ⟨⟨r, rfl, hA⟩, hb⟩)
      have HA := hid hA
      go_ret
      exact ⟨⟨r, rfl, HA.out⟩, HB.out.trans (hb.mono HB.out.size)⟩

end Go.Proofs.Qxb6605806a
