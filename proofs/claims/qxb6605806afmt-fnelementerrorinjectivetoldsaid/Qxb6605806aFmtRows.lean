/-
  No cell of these rows narrows 'for every input' (looked for: loops, veiled, ifaces, maps, wideKeys, modest, calm, conditions, laid).
  DERIVED. THE GIVEN ROWS OF THIS SEAT. 1 by the template 'for every input the law returns true; each argument reads behind the call as it read before'; 0 by the template 'total and deterministic' (their statements: Qxb6605806aFmtTotals.lean).
  GIVEN WITH THE SEED: the statements are not yours to turn. If you find one false, say at which input.
  Laid BY PROGRAM, IN A SANDBOX (cutbox-rows.mjs): the forced cells as the released guide's own fill.sh prints them over the translation 62d54ba6a659cfa1… (all of the seat's roots in one cut). By AI agents, Wed Nov 11 2026. No macro, syntax, notation, axiom, sorry.
-/
import Derived.Test.Qxb6605806aFmtChecked
import GoSem.Claim
import GoSem.ClaimJoined
import GoSem.ClaimMapViews
import Derived.JoinedTies
import Derived.KernelRfl
namespace Go.Proofs.Qxb6605806aFmt
/- THE CELL 'sum', in the pinned program and in every row, IS THE sha256 OF THE DUMP (.gsa) THAT Qxb6605806aFmtProg.lean LOADS. Nothing in Lean hashes anything: it is a label: what it is worth is what the hold of that sum in a sandbox is worth. -/
noncomputable def Tryf.pinned : Pinned := { name := "qxb6605806afmt", sum := "62d54ba6a659cfa1310f41c3034337e873e910d85196dd5497ca3aca13e5aa51", checked := Tryf.checked }
namespace Rows
def none {H : Type} : Left H := { results := [], args := [] }

/-- 'zzlaws_store_b1.FnElementErrorInjective': WHATEVER THE INPUT: true; the input reads as it did. -/
def fnElementErrorInjectiveSpec : ChangeSpec := { name := "fnElementErrorInjective", fn := fun _ => fun
  | [d1, d2, d3, d4] => { results := [.lit (.bool true)], args := [d1, d2, d3, d4] }
  | _ => none }
def fnElementErrorInjectiveRow : OpenClaim := { program := "qxb6605806afmt", sum := "62d54ba6a659cfa1310f41c3034337e873e910d85196dd5497ca3aca13e5aa51", func := "example.com/quillpath/quillpath/zzlaws_store_b1.FnElementErrorInjective", spec := "fnElementErrorInjective", stops := ["fmt.Sprintf, its operands' methods called"], inPlace := ["fmt.Sprintf"], unfollowed := true, recurses := true, apart := false }
/-- NO THEOREM (fmt's text is open here; it may be false): for the released tool's asking of the row's closed facts alone. THE STATEMENT IS 'FnElementErrorInjectiveToldSaid' (Qxb6605806aFmtCards.lean). -/
def FnElementErrorInjectiveFormAsk : Prop := fnElementErrorInjectiveRow.holds Tryf.pinned (OpenSpec.ofChange fnElementErrorInjectiveSpec)

/-- ITS FALSE NEIGHBOUR: 'it returns false'. Refute it at one input. -/
def fnElementErrorInjectiveWrong : ChangeSpec := { name := "fnElementErrorInjective", fn := fun _ => fun
  | [d1, d2, d3, d4] => { results := [.lit (.bool false)], args := [d1, d2, d3, d4] }
  | _ => none }
def FnElementErrorInjectiveWrongFormAsk : Prop := fnElementErrorInjectiveRow.holds Tryf.pinned (OpenSpec.ofChange fnElementErrorInjectiveWrong)

end Rows
end Go.Proofs.Qxb6605806aFmt
