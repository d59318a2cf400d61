/-
  No cell of these rows narrows 'for every input' (looked for: loops, veiled, ifaces, maps, wideKeys, modest, calm, conditions, laid).
  DERIVED. THE GIVEN ROWS OF THIS SEAT. 2 by the template 'for every input the law returns true; each argument reads behind the call as it read before'; 0 by the template 'total and deterministic' (their statements: Qxb6605802aTotals.lean).
  GIVEN WITH THE SEED: the statements are not yours to turn. If you find one false, say at which input.
  Laid BY PROGRAM, IN A SANDBOX (cutbox-rows.mjs): the forced cells as the released guide's own fill.sh prints them over the translation b386c85dd0cbcd13… (all of the seat's roots in one cut). By AI agents, Wed Nov 11 2026. No macro, syntax, notation, axiom, sorry.
-/
import Derived.Test.Qxb6605802aChecked
import GoSem.Claim
import GoSem.ClaimJoined
import GoSem.ClaimMapViews
import Derived.JoinedTies
import Derived.KernelRfl
namespace Go.Proofs.Qxb6605802a
/- THE CELL 'sum', in the pinned program and in every row, IS THE sha256 OF THE DUMP (.gsa) THAT Qxb6605802aProg.lean LOADS. Nothing in Lean hashes anything: it is a label: what it is worth is what the hold of that sum in a sandbox is worth. -/
noncomputable def Try.pinned : Pinned := { name := "qxb6605802a", sum := "b386c85dd0cbcd13a366b822bb9875e790db582cf1324e97141c74ac805096de", checked := Try.checked }
namespace Rows
def none {H : Type} : Left H := { results := [], args := [] }

/-- 'zzlaws_network_b1.FnLossyExactAndBlindToTheRest': WHATEVER THE INPUT: true; the input reads as it did. -/
def fnLossyExactAndBlindToTheRestSpec : ChangeSpec := { name := "fnLossyExactAndBlindToTheRest", fn := fun _ => fun
  | [d1, d2, d3] => { results := [.lit (.bool true)], args := [d1, d2, d3] }
  | _ => none }
def fnLossyExactAndBlindToTheRestRow : OpenClaim := { program := "qxb6605802a", sum := "b386c85dd0cbcd13a366b822bb9875e790db582cf1324e97141c74ac805096de", func := "example.com/auspex/auspex/zzlaws_network_b1.FnLossyExactAndBlindToTheRest", spec := "fnLossyExactAndBlindToTheRest", unfollowed := true, recurses := true, apart := false }
def FnLossyExactAndBlindToTheRestSaid : Prop := fnLossyExactAndBlindToTheRestRow.holds Try.pinned (OpenSpec.ofChange fnLossyExactAndBlindToTheRestSpec)

/-- ITS FALSE NEIGHBOUR: 'it returns false'. Refute it at one input. -/
def fnLossyExactAndBlindToTheRestWrong : ChangeSpec := { name := "fnLossyExactAndBlindToTheRest", fn := fun _ => fun
  | [d1, d2, d3] => { results := [.lit (.bool false)], args := [d1, d2, d3] }
  | _ => none }
def FnLossyExactAndBlindToTheRestWrongFalsely : Prop := fnLossyExactAndBlindToTheRestRow.holds Try.pinned (OpenSpec.ofChange fnLossyExactAndBlindToTheRestWrong)

/-- 'zzlaws_network_b1.FnLossyClearedThenOneDrop': WHATEVER THE INPUT: true; the input reads as it did. -/
def fnLossyClearedThenOneDropSpec : ChangeSpec := { name := "fnLossyClearedThenOneDrop", fn := fun _ => fun
  | [d1, d2, d3, d4] => { results := [.lit (.bool true)], args := [d1, d2, d3, d4] }
  | _ => none }
def fnLossyClearedThenOneDropRow : OpenClaim := { program := "qxb6605802a", sum := "b386c85dd0cbcd13a366b822bb9875e790db582cf1324e97141c74ac805096de", func := "example.com/auspex/auspex/zzlaws_network_b1.FnLossyClearedThenOneDrop", spec := "fnLossyClearedThenOneDrop", unfollowed := true, recurses := true, apart := false }
def FnLossyClearedThenOneDropSaid : Prop := fnLossyClearedThenOneDropRow.holds Try.pinned (OpenSpec.ofChange fnLossyClearedThenOneDropSpec)

/-- ITS FALSE NEIGHBOUR: 'it returns false'. Refute it at one input. -/
def fnLossyClearedThenOneDropWrong : ChangeSpec := { name := "fnLossyClearedThenOneDrop", fn := fun _ => fun
  | [d1, d2, d3, d4] => { results := [.lit (.bool false)], args := [d1, d2, d3, d4] }
  | _ => none }
def FnLossyClearedThenOneDropWrongFalsely : Prop := fnLossyClearedThenOneDropRow.holds Try.pinned (OpenSpec.ofChange fnLossyClearedThenOneDropWrong)

end Rows
end Go.Proofs.Qxb6605802a
