/-
  THE WALKS: errors.New, (*elementError).Error over fmt.Sprintf's stop, ZZelementErrorText, the law.
-/
import Derived.Test.Qxb6605806aFmtFacts
import Derived.Deep.RegionWith
namespace Go.Proofs.Qxb6605806aFmt
open Go.RowKit Go.Extern.Stop Go.Stop Go.Extern
set_option linter.unusedVariables false
set_option linter.unusedSimpArgs false
attribute [local go_sem] call8 guardOk fmt0 act3_100 op3_100 act31_118

/-- What fmt.Sprintf is asked. -/
def reading (i : Int) (s : List UInt8) : List (List UInt8) := [[91, 37, 100, 93, 58, 32, 37, 118], shape3, Go.Extern.Stop.digits 8 (i % 18446744073709551616).toNat, plain31, s]

theorem hid {p : Prop} (h : p) : Hid p := h

set_option maxHeartbeats 400000 in
theorem new6 (s : ByteArray) (w : World) :
    Calls Tryf.prog 6 #[.string s] w fun e w' => e = .returned (.iface 31 (.pointer (some ⟨w.heap.size, 0, none⟩))) ∧ w' = w.alloc (.cells #[.string s] 33) := by
  go_enter Tryf.func6, Tryf.ntmps6
  go_wp2
  go_ret
  exact ⟨rfl, rfl⟩

set_option maxHeartbeats 1000000 in
theorem rows8 (F : Interp) (i : Int) (s : ByteArray) (b q : Nat) (w : World) (hF : F.answers w.tape)
    (h0 : w.cell? ⟨b, 0, none⟩ = some (.iface 3 (.int .i64 i))) (h1 : w.cell? ⟨b, 1, none⟩ = some (.iface 31 (.pointer (some ⟨q, 0, none⟩)))) (h2 : w.cell? ⟨q, 0, none⟩ = some (.string s)) {R : Value → World → Prop}
    (h : R (.string (FmtStop.textOf (F "fmt.Sprintf" (reading i s.data.toList) 0))) w.drew) :
    Rows Tryf.prog FmtCalls.turnsRow (FmtCalls.save 0 0 (.slice (some ⟨b, 0, none⟩) 2 2) ⟨#[91, 37, 100, 93, 58, 32, 37, 118]⟩ [] [(0, 100, false), (1, 118, false)]) w R := by
  have hF' := answers_open hF
  have hop := fun (name : String) => opPlain31_118 name ⟨q, 0, none⟩ s w h2
  refine rows_value nextTurns ?hr h
  case hr =>
    go_simp
    rfl

set_option maxHeartbeats 1000000 in
theorem error7 (F : Interp) (i : Int) (s : ByteArray) (b q : Nat) (w : World) (hF : F.answers w.tape)
    (h0 : w.cell? ⟨b, 0, none⟩ = some (.int .i64 i)) (h1 : w.cell? ⟨b, 1, none⟩ = some (.iface 31 (.pointer (some ⟨q, 0, none⟩)))) (h2 : w.cell? ⟨q, 0, none⟩ = some (.string s)) (hb : b < w.heap.size) (hq : q < w.heap.size) :
    Calls Tryf.prog 7 #[.pointer (some ⟨b, 0, none⟩)] w fun e w' => e = .returned (.string (FmtStop.textOf (F "fmt.Sprintf" (reading i s.data.toList) 0))) ∧ Below w.heap.size w w' := by
  have hrow := fun (R : Value → World → Prop) => rows8 F i s w.heap.size q (w.alloc (.cells #[.iface 3 (.int .i64 i), .iface 31 (.pointer (some ⟨q, 0, none⟩))] 20)).drew hF (by simp) (by simp) (cell_later (((Below.refl _ w).alloc (Nat.le_refl _) _).drew) h2) (R := R)
  go_enter Tryf.func7, Tryf.ntmps7
  go_wp2
  go_region_with (refine hrow _ ?_)
  all_goals
    go_wp2
    go_ret
    exact ⟨rfl, (((Below.refl _ w).alloc (Nat.le_refl _) _).drew).drew⟩

/-- The element's text, of whatever F. -/
def txt (F : Interp) (i : Int) (s : ByteArray) : ByteArray := FmtStop.textOf (F "fmt.Sprintf" (reading i s.data.toList) 0)

set_option maxHeartbeats 1000000 in
theorem text5 (F : Interp) (i : Int) (s : ByteArray) (w : World) (hF : F.answers w.tape) :
    Calls Tryf.prog 5 #[.int .i64 i, .string s] w fun e w' => e = .returned (.string (txt F i s)) ∧ Below w.heap.size w w' := by
  have hcon := error7 F i s (w.heap.size + 1) w.heap.size ((w.alloc (.cells #[.string s] 33)).alloc (.cells #[.int .i64 i, .iface 31 (.pointer (some ⟨w.heap.size, 0, none⟩))] 29)) hF (by simp) (by simp) (by simp) (by simp) (by simp; omega)
  go_enter Tryf.func5, Tryf.ntmps5
  go_wp2_with (first | (go_at_call 6; refine (new6 _ _).mono ?_; rintro e w' ⟨rfl, rfl⟩) | (go_at_call 7; refine hcon.mono ?_; rintro e w' ⟨rfl, hb⟩))
  go_ret
  exact ⟨rfl, (((Below.refl _ w).alloc (Nat.le_refl _) _).alloc (by simp) _).trans (hb.mono (by simp; omega))⟩

def okLen (n m : Nat) : Bool := decide (n ≤ 1048576) && decide (n + m ≤ 1048576)

set_option maxHeartbeats 1000000 in
theorem bytes4 (x y : Value) (a b : ByteArray) (w : World) (ha : a.size ≤ 9223372036854775807) (hb : b.size ≤ 9223372036854775807) :
    Calls Tryf.prog 4 #[x, y, .string a, .string b] w fun e w' => e = .returned (.bool (okLen a.size b.size)) ∧ w = w' := by
  generalize hA : a.size = na at *
  generalize hB : b.size = nb at *
  unfold okLen
  by_cases h1 : (na : Int) ≤ 1048576
  · by_cases h2 : (nb : Int) ≤ 1048576
    · by_cases h3 : (na : Int) + (nb : Int) ≤ 1048576
      · go_enter Tryf.func4, Tryf.ntmps4
        go_wp2
        go_ret
        exact ⟨by simp; omega, rfl⟩
      · go_enter Tryf.func4, Tryf.ntmps4
        go_wp2
        go_ret
        exact ⟨by simp; omega, rfl⟩
    · go_enter Tryf.func4, Tryf.ntmps4
      go_wp2
      go_ret
      exact ⟨by simp; omega, rfl⟩
  · go_enter Tryf.func4, Tryf.ntmps4
    go_wp2
    go_ret
    exact ⟨by simp; omega, rfl⟩

end Go.Proofs.Qxb6605806aFmt
