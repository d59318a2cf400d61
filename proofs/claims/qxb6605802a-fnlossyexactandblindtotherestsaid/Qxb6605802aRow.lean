/-
  ROWS OF OUTCOMES OF THE CALL's OWN, and the row of descriptions that came in: facts on cells, no walk.
-/
import Derived.Test.Qxb6605802aLossy
import Derived.Deep.Slices
namespace Go.Proofs.Qxb6605802a
open Go.RowKit

/-- The descriptions that came in. -/
def RowZ (w : World) (a : Option Addr) (n : Nat) (f : Nat → Nat × Int × Int) : Prop :=
  n = 0 ∨ ∃ b off, a = some ⟨b, off, none⟩ ∧ b < w.heap.size ∧ ∀ j, j < n → w.cell? ⟨b, off + j * 3, none⟩ = some (.float .f64 (f j).1) ∧ w.cell? ⟨b, off + j * 3 + 1, none⟩ = some (.int .u8 (f j).2.1) ∧ w.cell? ⟨b, off + j * 3 + 2, none⟩ = some (.int .i64 (f j).2.2)

/-- The row of n outcomes in block b: each is written out, fits Q, and may be written. -/
def Good (Q : Nat → Nat × Option (Option Int) → Prop) (w : World) (b n : Nat) : Prop :=
  b < w.heap.size ∧ ∀ j, j < n → ∃ o, Q j o ∧ w.cell? ⟨b, j * 2, none⟩ = some (.float .f64 o.1) ∧ w.cell? ⟨b, j * 2 + 1, none⟩ = some (encD o.2) ∧ w.frozen? ⟨b, j * 2, none⟩ = false ∧ w.frozen? ⟨b, j * 2 + 1, none⟩ = false

/-- n zero outcomes. -/
def zero2 (n : Nat) : Array Value := madeCells #[.float .f64 0, .nilIface] (n * 2)

theorem zero2_size (n : Nat) : (zero2 n).size = n * 2 := size_madeCells _ _
theorem zero2_even (n j : Nat) (h : j < n) : (zero2 n)[j * 2]? = some (.float .f64 0) := by
  have : j * 2 < n * 2 := by omega
  simp [zero2, madeCells, this]
theorem zero2_odd (n j : Nat) (h : j < n) : (zero2 n)[j * 2 + 1]? = some .nilIface := by
  have : j * 2 + 1 < n * 2 := by omega
  simp [zero2, madeCells, this, Nat.add_mod]

theorem info39 : (Try.prog.info? 39).map (fun i => (i.zero, i.size, i.bytes)) = some (some (.agg #[.float .f64 0, .nilIface]), 2, 24) := by kernel_rfl

theorem make28 (n : Nat) (hn : n ≤ 1048576) (w : World) :
    (Instr.makeSlice 28 (.int .i64 (n : Int)) (.int .i64 (n : Int))).run Try.prog w = .ok (.slice (some ⟨w.heap.size, 0, none⟩) n n) (w.alloc (.cells (zero2 n) 39)) := by
  obtain ⟨i, hi, hz, hs, hb⟩ := info_parts info39
  have hr := run_make (P := Try.prog) w 28 39 i _ Try.underlying28 hi hz .i64 .i64 n n (by omega) (Int.le_refl _) (by rw [hb]; omega) (by omega)
  simp only [Int.toNat_natCast, hs] at hr
  exact hr

theorem Good.mono {Q Q' : Nat → Nat × Option (Option Int) → Prop} {w : World} {b n : Nat} (h : Good Q w b n) (hq : ∀ j o, j < n → Q j o → Q' j o) : Good Q' w b n :=
  ⟨h.1, fun j hj => let ⟨o, q, r⟩ := h.2 j hj; ⟨o, hq j o hj q, r⟩⟩

theorem Good.made {Q : Nat → Nat × Option (Option Int) → Prop} (w : World) (n : Nat) (hQ : ∀ j, Q j (0, none)) : Good Q (w.alloc (.cells (zero2 n) 39)) w.heap.size n := by
  refine ⟨by simp, fun j hj => ⟨(0, none), hQ j, ?_, ?_, ?_, ?_⟩⟩
  · simp [zero2_even n j hj]
  · simp [zero2_odd n j hj, encD]
  · simp
  · simp

theorem Good.later {Q : Nat → Nat × Option (Option Int) → Prop} {w w' : World} {b n : Nat} (h : Good Q w b n) (hb : Below w.heap.size w w') : Good Q w' b n :=
  ⟨Nat.lt_of_lt_of_le h.1 hb.size, fun j hj => let ⟨o, q, c0, c1, f0, f1⟩ := h.2 j hj
    ⟨o, q, (hb.cell (p := ⟨b, j * 2, none⟩) h.1).trans c0, (hb.cell (p := ⟨b, j * 2 + 1, none⟩) h.1).trans c1, (hb.frozen (p := ⟨b, j * 2, none⟩) h.1).trans f0, (hb.frozen (p := ⟨b, j * 2 + 1, none⟩) h.1).trans f1⟩⟩

theorem frozen_setCell (w : World) (a p : Addr) (v : Value) : (w.setCell a v).frozen? p = w.frozen? p := by simp

theorem Good.other {Q : Nat → Nat × Option (Option Int) → Prop} {w : World} {b n : Nat} (h : Good Q w b n) {a : Addr} (ha : a.block ≠ b) (v : Value) : Good Q (w.setCell a v) b n := by
  refine ⟨by simpa using h.1, fun j hj => ?_⟩
  obtain ⟨o, q, c0, c1, f0, f1⟩ := h.2 j hj
  refine ⟨o, q, ?_, ?_, by simpa using f0, by simpa using f1⟩
  · rw [World.cell?_setCell_other _ _ _ _ (fun e => ha (by rw [e]))]; exact c0
  · rw [World.cell?_setCell_other _ _ _ _ (fun e => ha (by rw [e]))]; exact c1

theorem Good.store {Q : Nat → Nat × Option (Option Int) → Prop} {w : World} {b n : Nat} (h : Good Q w b n) {k : Nat} (hk : k < n) (x : Nat) (d : Option (Option Int)) (hq : Q k (x, d)) :
    Good Q ((w.setCell ⟨b, k * 2, none⟩ (.float .f64 x)).setCell ⟨b, k * 2 + 1, none⟩ (encD d)) b n := by
  refine ⟨by simpa using h.1, fun j hj => ?_⟩
  obtain ⟨o, q, c0, c1, f0, f1⟩ := h.2 j hj
  by_cases e : j = k
  · subst e
    refine ⟨(x, d), hq, ?_, ?_, by simpa using f0, by simpa using f1⟩
    · rw [World.cell?_setCell_other _ _ _ _ (by simp)]
      exact World.cell?_setCell_same _ _ _ c0
    · exact World.cell?_setCell_same _ _ _ (by rw [World.cell?_setCell_other _ _ _ _ (by simp)]; exact c1)
  · refine ⟨o, q, ?_, ?_, by simpa using f0, by simpa using f1⟩
    · rw [World.cell?_setCell_other _ _ _ _ (by intro q; injection q; omega), World.cell?_setCell_other _ _ _ _ (by intro q; injection q; omega)]; exact c0
    · rw [World.cell?_setCell_other _ _ _ _ (by intro q; injection q; omega), World.cell?_setCell_other _ _ _ _ (by intro q; injection q; omega)]; exact c1

theorem Good.turn {Q Q' : Nat → Nat × Option (Option Int) → Prop} {w : World} {b n : Nat} (h : Good Q w b n) {k : Nat} (hk : k < n) (x : Nat) (d : Option (Option Int)) (hq : Q' k (x, d)) (ho : ∀ j o, j ≠ k → Q j o → Q' j o) :
    Good Q' ((w.setCell ⟨b, k * 2, none⟩ (.float .f64 x)).setCell ⟨b, k * 2 + 1, none⟩ (encD d)) b n := by
  have h1 : Good (fun j o => if j = k then True else Q j o) w b n := h.mono fun j o _ q => by
    show if j = k then True else Q j o
    split
    · trivial
    · exact q
  have h2 : Good (fun j o => if j = k then True else Q' j o) w b n := h1.mono fun j o _ q => by
    show if j = k then True else Q' j o
    by_cases e : j = k
    · simp [e]
    · rw [if_neg e]; exact ho j o e (by simpa [e] using q)
  have h3 := h2.store hk x d (by simp)
  refine ⟨h3.1, fun j hj => ?_⟩
  obtain ⟨o, q, c0, c1, f0, f1⟩ := h3.2 j hj
  by_cases e : j = k
  · subst e
    refine ⟨(x, d), hq, ?_, ?_, f0, f1⟩
    · obtain ⟨o', _, c0', _⟩ := h.2 j hj
      rw [World.cell?_setCell_other _ _ _ _ (by simp)]
      exact World.cell?_setCell_same _ _ _ c0'
    · obtain ⟨o', _, _, c1', _⟩ := h.2 j hj
      exact World.cell?_setCell_same _ _ _ (by rw [World.cell?_setCell_other _ _ _ _ (by simp)]; exact c1')
  · exact ⟨o, by simpa [e] using q, c0, c1, f0, f1⟩

theorem Good.rowO {Q : Nat → Nat × Option (Option Int) → Prop} {w : World} {b n : Nat} (h : Good Q w b n) : ∃ zs : Nat → Nat × Option (Option Int), (∀ j, j < n → Q j (zs j)) ∧ RowO w (some ⟨b, 0, none⟩) n zs := by
  obtain ⟨zs, hz⟩ := Go.Deep.choose_lt (fun j hj => h.2 j hj)
  exact ⟨zs, fun j hj => (hz j hj).1, .inr ⟨b, rfl, h.1, fun j hj => ⟨(hz j hj).2.1, (hz j hj).2.2.1⟩⟩⟩

end Go.Proofs.Qxb6605802a
