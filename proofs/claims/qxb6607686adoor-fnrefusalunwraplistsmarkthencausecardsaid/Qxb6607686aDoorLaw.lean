/-
  The law's own function, ZZRefusalUnwrap by its contract.
-/
import Derived.Test.Qxb6607686aDoorIs
namespace Go.Proofs.Qxb6607686aDoor
open Go.RowKit
set_option linter.unusedVariables false
set_option linter.unusedSimpArgs false

def BytesSay (e : Ending) : Prop := ∃ r, e = .returned (.bool r)

set_option maxHeartbeats 1000000 in
theorem bytes12 (s t : ByteArray) (w : World) (h0 : s.size ≤ 9223372036854775807) (h1 : t.size ≤ 9223372036854775807) :
    Calls Tryd.prog 12 #[.string s, .string t] w fun e w' => BytesSay e ∧ w = w' := by
  go_enter Tryd.func12, Tryd.ntmps12
  go_wp2
  all_goals
    go_ret
    exact ⟨⟨_, rfl⟩, rfl⟩

set_option maxRecDepth 100000 in
set_option maxHeartbeats 2000000 in
theorem law5 (s t : ByteArray) (w : World) (h0 : s.size ≤ 9223372036854775807) (h1 : t.size ≤ 9223372036854775807)
    (hU : Calls Tryd.prog 13 #[.string s, .string t] w fun e w' => e = .returned (.tuple #[.int .i64 2, .bool true, .bool true, .bool true, .bool true, .bool false]) ∧ Below w.heap.size w w') :
    Calls Tryd.prog 5 #[.string s, .string t] w fun e w' => e = .returned (.bool true) ∧ Below w.heap.size w w' := by
  have hcon := bytes12 s t w h0 h1
  go_enter Tryd.func5, Tryd.ntmps5
  go_wp2_with (first
    | (go_at_call 12; refine hcon.mono ?_; rintro e w' ⟨⟨r, rfl⟩, rfl⟩)
    | (go_at_call 13; refine hU.mono ?_; rintro e w1 ⟨rfl, hb⟩; have HB := hid hb; clear hb))
  all_goals (first | (go_ret; exact ⟨rfl, Below.refl _ _⟩) | (go_ret; exact ⟨rfl, HB.out⟩))

end Go.Proofs.Qxb6607686aDoor
