/-
  endsOfAccounts.
-/
import Derived.Test.Qxb6605841aFull
namespace Go.Proofs.Qxb6605841a
open Go.RowKit
set_option linter.unusedVariables false
set_option linter.unusedSimpArgs false

theorem info42 : (Try.prog.info? 42).map (fun i => (i.zero, i.size, i.bytes)) = some (some (.slice none 0 0), 1, 24) := by kernel_rfl
theorem info44 : (Try.prog.info? 44).map (fun i => (i.zero, i.size, i.bytes)) = some (some (.int .u32 0), 1, 4) := by kernel_rfl

/-- The row of ends of one block, the first k of which are written. -/
def GoodE (k : Nat) (f : Nat → ByteArray) (p : Nat) (w : World) (h : Nat) : Prop :=
  h < w.heap.size ∧ ∀ j, j < 4096 → (∃ v, w.cell? ⟨h, j, none⟩ = some v) ∧ w.frozen? ⟨h, j, none⟩ = false ∧ (j < k → w.cell? ⟨h, j, none⟩ = some (.int .u32 ((tot f p (j + 1) : Nat) : Int)))

theorem GoodE.made (f : Nat → ByteArray) (p : Nat) (w : World) (t : TypeId) : GoodE 0 f p (w.alloc (.cells (madeCells #[.int .u32 0] 4096) t)) w.heap.size := by
  refine ⟨by simp, fun j hj => ⟨⟨.int .u32 0, ?_⟩, by simp, fun h => absurd h (Nat.not_lt_zero _)⟩⟩
  simp [madeCells, hj, Nat.mod_one]

theorem GoodE.store {k : Nat} {f : Nat → ByteArray} {p : Nat} {w : World} {h : Nat} (g : GoodE k f p w h) : GoodE (k + 1) f p (w.setCell ⟨h, k, none⟩ (.int .u32 ((tot f p (k + 1) : Nat) : Int))) h := by
  refine ⟨by simpa using g.1, fun j hj => ?_⟩
  obtain ⟨⟨v, c0⟩, f0, c1⟩ := g.2 j hj
  by_cases e : j = k
  · subst e
    have := World.cell?_setCell_same w ⟨h, j, none⟩ (.int .u32 ((tot f p (j + 1) : Nat) : Int)) c0
    exact ⟨⟨_, this⟩, by simpa using f0, fun _ => this⟩
  · have hne : (⟨h, k, none⟩ : Addr) ≠ ⟨h, j, none⟩ := by intro q; injection q; omega
    refine ⟨⟨v, ?_⟩, by simpa using f0, fun hj' => ?_⟩
    · rw [World.cell?_setCell_other _ _ _ _ hne]; exact c0
    · rw [World.cell?_setCell_other _ _ _ _ hne]; exact c1 (by omega)

/-- The rows of ends: the first k of K are laid. -/
def EndsAt (w : World) (f : Nat → ByteArray) (base g K k : Nat) : Prop :=
  g < w.heap.size ∧ ∀ m, m < K → (∃ v, w.cell? ⟨g, m, none⟩ = some v) ∧ w.frozen? ⟨g, m, none⟩ = false ∧
    (m < k → ∃ h, (h ≠ g ∧ base ≤ h ∧ base ≤ g) ∧ w.cell? ⟨g, m, none⟩ = some (.slice (some ⟨h, 0, none⟩) 4096 4096) ∧ h < w.heap.size ∧ ∀ j, j < 4096 → w.cell? ⟨h, j, none⟩ = some (.int .u32 ((tot f (m * 4096) (j + 1) : Nat) : Int)))

theorem EndsAt.made (f : Nat → ByteArray) (w : World) (K : Nat) (t : TypeId) : EndsAt (w.alloc (.cells (madeCells #[.slice none 0 0] K) t)) f w.heap.size w.heap.size K 0 := by
  refine ⟨by simp, fun j hj => ⟨⟨.slice none 0 0, ?_⟩, by simp, fun h => absurd h (Nat.not_lt_zero _)⟩⟩
  simp [madeCells, hj, Nat.mod_one]

theorem EndsAt.later {w w' : World} {f : Nat → ByteArray} {base g K k : Nat} (h : EndsAt w f base g K k) (hb : Below w.heap.size w w') : EndsAt w' f base g K k := by
  refine ⟨Nat.lt_of_lt_of_le h.1 hb.size, fun m hm => ?_⟩
  obtain ⟨⟨v, c0⟩, f0, c1⟩ := h.2 m hm
  refine ⟨⟨v, (hb.cell (p := ⟨g, m, none⟩) h.1).trans c0⟩, (hb.frozen (p := ⟨g, m, none⟩) h.1).trans f0, fun hk => ?_⟩
  obtain ⟨x, x1, x2, x3, x4⟩ := c1 hk
  exact ⟨x, x1, (hb.cell (p := ⟨g, m, none⟩) h.1).trans x2, Nat.lt_of_lt_of_le x3 hb.size, fun j hj => (hb.cell (p := ⟨x, j, none⟩) x3).trans (x4 j hj)⟩

theorem EndsAt.store {w : World} {f : Nat → ByteArray} {base g K k h : Nat} (e : EndsAt w f base g K k) (hg : h ≠ g) (hh : base ≤ h) (hgb : base ≤ g) (q : GoodE 4096 f (k * 4096) w h) : EndsAt (w.setCell ⟨g, k, none⟩ (.slice (some ⟨h, 0, none⟩) 4096 4096)) f base g K (k + 1) := by
  have other : ∀ (x j : Nat), x ≠ g → (w.setCell ⟨g, k, none⟩ (.slice (some ⟨h, 0, none⟩) 4096 4096)).cell? ⟨x, j, none⟩ = w.cell? ⟨x, j, none⟩ := fun x j hx => World.cell?_setCell_other _ _ _ _ (fun r => hx (by injection r with r1; exact r1.symm))
  refine ⟨by simpa using e.1, fun m hm => ?_⟩
  obtain ⟨⟨v, c0⟩, f0, c1⟩ := e.2 m hm
  by_cases c : m = k
  · subst c
    have hc := World.cell?_setCell_same w ⟨g, m, none⟩ (.slice (some ⟨h, 0, none⟩) 4096 4096) c0
    exact ⟨⟨_, hc⟩, by simpa using f0, fun _ => ⟨h, ⟨hg, hh, hgb⟩, hc, by simpa using q.1, fun j hj => (other h j hg).trans ((q.2 j hj).2.2 hj)⟩⟩
  · have hne : (⟨g, k, none⟩ : Addr) ≠ ⟨g, m, none⟩ := by intro q; injection q; omega
    have hc : (w.setCell ⟨g, k, none⟩ (.slice (some ⟨h, 0, none⟩) 4096 4096)).cell? ⟨g, m, none⟩ = w.cell? ⟨g, m, none⟩ := World.cell?_setCell_other _ _ _ _ hne
    refine ⟨⟨v, hc.trans c0⟩, by simpa using f0, fun hk => ?_⟩
    obtain ⟨x, x1, x2, x3, x4⟩ := c1 (by omega)
    exact ⟨x, x1, hc.trans x2, by simpa using x3, fun j hj => (other x j x1.1).trans (x4 j hj)⟩

set_option maxRecDepth 100000 in
set_option maxHeartbeats 2000000 in
theorem ends16 (a : Option Addr) (n c K : Nat) (f : Nat → ByteArray) (w : World) (hn : n ≤ 65536) (hs : tot f 0 n ≤ 1048576) (hK : n = K * 4096) (h0 : 0 < K) (h : RowS w a n f) :
    Calls Try.prog 16 #[.slice a n c] w fun e w' => (∃ g, e = .returned (.slice (some ⟨g, 0, none⟩) K K) ∧ EndsAt w' f w.heap.size g K K) ∧ Below w.heap.size w w' := by
  obtain ⟨b, off, rfl, hbl, hc⟩ := h.at (by omega)
  have HC := hid hc
  have HS := hid hs
  clear h hc hs
  have hm1 := run_make_row' (P := Try.prog) 36 42 (.slice none 0 0) 24 Try.underlying36 info42 rfl .i64 .i64 K (by omega) (by omega)
  have hm2 : ∀ w : World, (Instr.makeSlice 42 (.int .i64 4096) (.int .i64 4096)).run Try.prog w = .ok (.slice (some ⟨w.heap.size, 0, none⟩) 4096 4096) (w.alloc (.cells (madeCells #[.int .u32 0] 4096) 44)) := run_make_row' (P := Try.prog) 42 44 (.int .u32 0) 4 Try.underlying42 info44 rfl .i64 .i64 4096 (by omega) (by omega)
  have hdiv : ((n : Int) + 4096 - 1) / 4096 = (K : Int) := by rw [hK]; omega
  have HK := hid hK
  have hK16 : K ≤ 16 := by omega
  have hnK : (n : Int) ≤ 65536 := by omega
  clear hK
  go_enter Try.func16, Try.ntmps16
  go_wp2
  clear hdiv hm1
  go_loopw [5, 6, 7, 8] (fun s5 _ _ _ wr => ∃ k : Nat, k ≤ K ∧ s5 = .int .i64 (k : Int) ∧ Hid (EndsAt wr f w.heap.size w.heap.size K k) ∧ Hid (Below w.heap.size w wr)) (fun i _ _ _ _ => K - (intOf i).toNat)
  case atStart =>
    exact ⟨0, Nat.zero_le _, rfl, hid (EndsAt.made f w K _), hid ((Below.refl _ _).alloc (Nat.le_refl _) _)⟩
  case round =>
    obtain ⟨k, hk, rfl, HE, HB⟩ := hrel
    by_cases hlt : k < K
    · have hb0 : b < wr.heap.size := Nat.lt_of_lt_of_le hbl HB.out.size
      go_wp2
      obtain ⟨W0, hW0⟩ : ∃ W0, W0 = wr := ⟨_, rfl⟩
      subst hW0
      clear hm2
      go_loopw [7, 8] (fun s7 s8 wx => ∃ j : Nat, j ≤ 4096 ∧ s7 = .int .u32 ((tot f (k * 4096) j : Nat) : Int) ∧ s8 = .int .i64 (j : Int) ∧ Hid (Below W0.heap.size W0 wx) ∧ Hid (GoodE j f (k * 4096) wx W0.heap.size)) (fun _ i _ => 4096 - (intOf i).toNat)
      case atStart =>
        exact ⟨0, Nat.zero_le _, rfl, rfl, hid ((Below.refl _ _).alloc (Nat.le_refl _) _), hid (GoodE.made f (k * 4096) W0 _)⟩
      case round =>
        obtain ⟨j, hj, rfl, rfl, HBx, HG⟩ := hrel
        by_cases hjl : j < 4096
        · have hkj : k * 4096 + j < n := by have := HK.out; omega
          have c0 : wr.cell? ⟨b, off + (k * 4096 + j), none⟩ = some (.string (f (k * 4096 + j))) := (HBx.out.cell (p := ⟨b, off + (k * 4096 + j), none⟩) hb0).trans ((HB.out.cell (p := ⟨b, off + (k * 4096 + j), none⟩) hbl).trans (HC.out _ hkj))
          obtain ⟨⟨v, g0⟩, g1, _⟩ := HG.out.2 j hjl
          have ht : tot f (k * 4096) (j + 1) = tot f (k * 4096) j + (f (k * 4096 + j)).size := rfl
          have hb1 := Nat.le_trans (tot_in f (show k * 4096 + (j + 1) ≤ n by omega)) HS.out
          have HST := hid (GoodE.store HG.out)
          have e2 : (k : Int) * 4096 + (j : Int) < (n : Int) := by omega
          have e3 : (0 : Int) ≤ (k : Int) * 4096 + (j : Int) := by omega
          have e4 : ((k : Int) * 4096 + (j : Int)).toNat = k * 4096 + j := by omega
          go_wp2
          go_roundw
          case rel =>
            go_light
            refine ⟨j + 1, by omega, by rw [ht]; go_num, by go_num, ?_, ?_⟩
            · exact hid (HBx.out.setCell (p := ⟨W0.heap.size, j, none⟩) (Nat.le_refl _) _)
            · have := HST.out
              rw [ht] at this
              exact this
          case measure => (simp [intOf] <;> omega)
        · have : j = 4096 := by omega
          subst this
          obtain ⟨⟨v, g0⟩, g1, _⟩ := HE.out.2 k hlt
          have l0 := HE.out.1
          have g0' : wr.cell? ⟨w.heap.size, k, none⟩ = some v := (HBx.out.cell (p := ⟨w.heap.size, k, none⟩) l0).trans g0
          have g1' : wr.frozen? ⟨w.heap.size, k, none⟩ = false := (HBx.out.frozen (p := ⟨w.heap.size, k, none⟩) l0).trans g1
          go_wp2
          go_roundw
          case rel =>
            go_light
            refine ⟨k + 1, by omega, by go_num, ?_, ?_⟩
            · exact hid ((HE.out.later HBx.out).store (by omega) HB.out.size (Nat.le_refl _) HG.out)
            · exact hid ((HB.out.trans (HBx.out.mono HB.out.size)).setCell (p := ⟨w.heap.size, k, none⟩) (Nat.le_refl _) _)
          case measure => (simp [intOf] <;> omega)
    · have : K = k := by omega
      subst this
      go_wp2
      go_ret
      exact ⟨⟨_, rfl, HE.out⟩, HB.out⟩

end Go.Proofs.Qxb6605841a
