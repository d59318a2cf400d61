/-
  THE DESCRIPTIONS THAT CAME IN, OPENED: a slice of structs of three one-cell fields.
-/
import Derived.Test.Qxb6605802aRow
import Derived.Deep.Strs
import Derived.ProofKit
import Derived.OpenShut
import Derived.ChangeOld
import Derived.Laws.Cover2
namespace Go.Proofs.Qxb6605802a
open Go.ChangeShapes Go.WideShapes Go.ChangeAt Go.RowKit Go.Deep

theorem own : ownKnob Try.prog.godebug = none := by kernel_rfl
theorem laidOut : laidOutB Try.prog = true := by kernel_rfl
theorem cells34 : Try.prog.cellsOf 34 = 3 := by kernel_rfl
theorem cells22 : Try.prog.cellsOf 22 = 1 := by kernel_rfl
theorem cells5 : Try.prog.cellsOf 5 = 1 := by kernel_rfl
theorem cells2 : Try.prog.cellsOf 2 = 1 := by kernel_rfl

theorem trod_float {H : Type} {enc : TypeId × Value → H} {P : Program} {w : World} {base : Nat} {spare : Nat → Bool} {held : Bool} {fuel : Nat} {t : TypeId} {cs : List Value} {x : DataW H × List MemPlace} {k : FloatKind}
    (ht : P.underlying t = some (.float k)) (h : DataW.trod enc P w base spare held fuel t cs = some x) : ∃ b, cs = [.float k b] := by
  cases fuel with
  | zero => simp [DataW.trod] at h
  | succ n =>
    unfold DataW.trod at h
    rw [ht] at h
    split at h <;> simp_all

theorem lt_of_cell {w : World} {a : Addr} {v : Value} (h : w.cell? a = some v) : a.block < w.heap.size := by
  unfold World.cell? at h
  by_cases hb : a.block < w.heap.size
  · exact hb
  · rw [Array.getElem?_eq_none (by omega)] at h
    simp at h

theorem open_outs {H : Type} {enc : TypeId × Value → H} {w : World} {spare : Nat → Bool} {held : Bool} {a : Option Addr} {len cap : Nat} {d : DataW H} {ps : List MemPlace}
    (h : DataW.Trod enc Try.prog w 0 spare held 23 (.slice a len cap) d ps) : len ≤ maxLen ∧ ∃ f, RowZ w a len f := by
  obtain ⟨fuel, hf⟩ := h
  rcases open_slice Try.underlying23 hf with ⟨hcs, _⟩ | ⟨x, l, c, m, n, D, Pl, hcs, _, hl, hm, hmm, _, hx⟩
  · simp [Value.cells] at hcs
    obtain ⟨rfl, rfl, rfl⟩ := hcs
    exact ⟨Nat.zero_le _, fun _ => (0, 0, 0), .inl rfl⟩
  · simp [Value.cells] at hcs
    obtain ⟨rfl, rfl, rfl⟩ := hcs
    refine ⟨Nat.le_trans hl hm, ?_⟩
    have hlm : len ≤ m := by rw [hmm]; split <;> omega
    have each : ∀ i, i < len → ∃ z : Nat × Int × Int, w.cell? (x.add (i * 3)) = some (.float .f64 z.1) ∧ w.cell? (x.add (i * 3 + 1)) = some (.int .u8 z.2.1) ∧ w.cell? (x.add (i * 3 + 2)) = some (.int .i64 z.2.2) := by
      intro i hi
      obtain ⟨cs', h1, h2⟩ := hx i (by omega)
      rw [cells34] at h1
      obtain ⟨_, hlen, hcell⟩ := World.cells?_some h1
      obtain ⟨y0, y1, y2, k, _, _, g0, g1, g2⟩ := trod_struct3 Try.underlying34 h2
      match cs', hlen with
      | [v0, v1, v2], _ =>
        simp [cells22, cells5, cells2] at g0 g1 g2
        obtain ⟨q0, e0⟩ := trod_float Try.underlying22 g0
        obtain ⟨q1, e1, _⟩ := DataW.trod_int Try.underlying5 g1
        obtain ⟨q2, e2, _⟩ := DataW.trod_int Try.underlying2 g2
        simp at e0 e1 e2
        subst e0 e1 e2
        have k0 := hcell 0 (by omega)
        have k1 := hcell 1 (by omega)
        have k2 := hcell 2 (by omega)
        rw [add_add] at k0 k1 k2
        exact ⟨(q0, q1, q2), by simpa using k0, by simpa using k1, by simpa using k2⟩
    obtain ⟨f, hfz⟩ := choose_lt each
    refine ⟨f, ?_⟩
    by_cases h0 : len = 0
    · exact .inl h0
    right
    obtain ⟨b, off, spot⟩ := x
    have hspot : spot = none := by simpa [Addr.add] using World.cell?_spot (hfz 0 (by omega)).1
    subst hspot
    refine ⟨b, off, rfl, ?_, fun j hj => ?_⟩
    · have := lt_of_cell (hfz 0 (by omega)).1
      simpa [Addr.add] using this
    · obtain ⟨a0, a1, a2⟩ := hfz j hj
      rw [add_plain] at a0 a1 a2
      exact ⟨a0, a1, a2⟩

end Go.Proofs.Qxb6605802a
