/-
  NARROWER THAN 'FOR EVERY INPUT', by the rows' own cells (each row's printed sentence says how): FnRefuseMarksAndKeepsTheCause: ifaces, laid · FnRefuseTellsTwoCausesApart: ifaces, laid · FnRefusalUnwrapListsMarkThenCause: ifaces, laid · FnRefuseTwiceStillReachesTheCause: ifaces, laid.
  DERIVED. THE GIVEN ROWS OF THIS SEAT. 4 by the template 'for every input the law returns true; each argument reads behind the call as it read before'; 0 by the template 'total and deterministic' (their statements: Qxb6607686aDoorTotals.lean).
  GIVEN WITH THE SEED: the statements are not yours to turn. If you find one false, say at which input.
  Laid BY PROGRAM, IN A SANDBOX (cutbox-rows.mjs): the forced cells as the released guide's own fill.sh prints them over the translation 8c8255a67edf4408… (all of the seat's roots in one cut). By AI agents, Wed Nov 11 2026. No macro, syntax, notation, axiom, sorry.
-/
import Derived.Test.Qxb6607686aDoorChecked
import GoSem.Claim
import GoSem.ClaimJoined
import GoSem.ClaimMapViews
import Derived.JoinedTies
import Derived.KernelRfl
namespace Go.Proofs.Qxb6607686aDoor
/- THE CELL 'sum', in the pinned program and in every row, IS THE sha256 OF THE DUMP (.gsa) THAT Qxb6607686aDoorProg.lean LOADS. Nothing in Lean hashes anything: it is a label: what it is worth is what the hold of that sum in a sandbox is worth. -/
noncomputable def Tryd.pinned : Pinned := { name := "qxb6607686adoor", sum := "8c8255a67edf440824d92ae4f7fb2247a345c3c34cf3f0c4cc229c3af267207f", checked := Tryd.checked }
namespace Rows
def none {H : Type} : Left H := { results := [], args := [] }

/- WHAT THE LISTED PACKAGE-LEVEL VARIABLES READ AS WHEN THE CALL BEGINS. Each datum BY PROGRAM (the guide's laid-datum.mjs) off the statement by which the dump's own 'gosem.cut.vars' lays the variable. In a bare row this is a premise. The card (Qxb6607686aDoorCards.lean) ties it to the program's text. -/
def laid_example_com_outledger_outledger_internal_outbox_ErrRefused {H : Type} : DataW H := .iface "*errors.errorString" (.ptr (.agg [.lit (.string [116, 104, 101, 32, 98, 114, 111, 107, 101, 114, 32, 114, 101, 102, 117, 115, 101, 115, 32, 116, 104, 101, 32, 109, 101, 115, 115, 97, 103, 101])]))

/-- 'zzlaws_internal_outbox_b1.FnRefuseMarksAndKeepsTheCause': WHATEVER THE INPUT: true; the input reads as it did. -/
def fnRefuseMarksAndKeepsTheCauseSpec : ChangeSpec := { name := "fnRefuseMarksAndKeepsTheCause", vars := ["example.com/outledger/outledger/internal/outbox.ErrRefused"], fn := fun _ => fun
  | [d1, d2, d3, g1] => { results := [.lit (.bool true)], args := [d1, d2, d3], vars := [g1] }
  | _ => none }
def fnRefuseMarksAndKeepsTheCauseRow : OpenClaim := { program := "qxb6607686adoor", sum := "8c8255a67edf440824d92ae4f7fb2247a345c3c34cf3f0c4cc229c3af267207f", func := "example.com/outledger/outledger/zzlaws_internal_outbox_b1.FnRefuseMarksAndKeepsTheCause", spec := "fnRefuseMarksAndKeepsTheCause", inPlace := ["internal/reflectlite.TypeOf"], unfollowed := true, recurses := true, named := ["example.com/outledger/outledger/internal/outbox.ErrRefused"], ifaces := true, apart := false, laid := [("example.com/outledger/outledger/internal/outbox.ErrRefused", laid_example_com_outledger_outledger_internal_outbox_ErrRefused)] }
def FnRefuseMarksAndKeepsTheCauseSaid : Prop := fnRefuseMarksAndKeepsTheCauseRow.holds Tryd.pinned (OpenSpec.ofChange fnRefuseMarksAndKeepsTheCauseSpec)

/-- ITS FALSE NEIGHBOUR: 'it returns false'. Refute it at one input. -/
def fnRefuseMarksAndKeepsTheCauseWrong : ChangeSpec := { name := "fnRefuseMarksAndKeepsTheCause", vars := ["example.com/outledger/outledger/internal/outbox.ErrRefused"], fn := fun _ => fun
  | [d1, d2, d3, g1] => { results := [.lit (.bool false)], args := [d1, d2, d3], vars := [g1] }
  | _ => none }
def FnRefuseMarksAndKeepsTheCauseWrongFalsely : Prop := fnRefuseMarksAndKeepsTheCauseRow.holds Tryd.pinned (OpenSpec.ofChange fnRefuseMarksAndKeepsTheCauseWrong)

/-- 'zzlaws_internal_outbox_b1.FnRefuseTellsTwoCausesApart': WHATEVER THE INPUT: true; the input reads as it did. -/
def fnRefuseTellsTwoCausesApartSpec : ChangeSpec := { name := "fnRefuseTellsTwoCausesApart", vars := ["example.com/outledger/outledger/internal/outbox.ErrRefused"], fn := fun _ => fun
  | [d1, d2, g1] => { results := [.lit (.bool true)], args := [d1, d2], vars := [g1] }
  | _ => none }
def fnRefuseTellsTwoCausesApartRow : OpenClaim := { program := "qxb6607686adoor", sum := "8c8255a67edf440824d92ae4f7fb2247a345c3c34cf3f0c4cc229c3af267207f", func := "example.com/outledger/outledger/zzlaws_internal_outbox_b1.FnRefuseTellsTwoCausesApart", spec := "fnRefuseTellsTwoCausesApart", inPlace := ["internal/reflectlite.TypeOf"], unfollowed := true, recurses := true, named := ["example.com/outledger/outledger/internal/outbox.ErrRefused"], ifaces := true, apart := false, laid := [("example.com/outledger/outledger/internal/outbox.ErrRefused", laid_example_com_outledger_outledger_internal_outbox_ErrRefused)] }
def FnRefuseTellsTwoCausesApartSaid : Prop := fnRefuseTellsTwoCausesApartRow.holds Tryd.pinned (OpenSpec.ofChange fnRefuseTellsTwoCausesApartSpec)

/-- ITS FALSE NEIGHBOUR: 'it returns false'. Refute it at one input. -/
def fnRefuseTellsTwoCausesApartWrong : ChangeSpec := { name := "fnRefuseTellsTwoCausesApart", vars := ["example.com/outledger/outledger/internal/outbox.ErrRefused"], fn := fun _ => fun
  | [d1, d2, g1] => { results := [.lit (.bool false)], args := [d1, d2], vars := [g1] }
  | _ => none }
def FnRefuseTellsTwoCausesApartWrongFalsely : Prop := fnRefuseTellsTwoCausesApartRow.holds Tryd.pinned (OpenSpec.ofChange fnRefuseTellsTwoCausesApartWrong)

/-- 'zzlaws_internal_outbox_b1.FnRefusalUnwrapListsMarkThenCause': WHATEVER THE INPUT: true; the input reads as it did. -/
def fnRefusalUnwrapListsMarkThenCauseSpec : ChangeSpec := { name := "fnRefusalUnwrapListsMarkThenCause", vars := ["example.com/outledger/outledger/internal/outbox.ErrRefused"], fn := fun _ => fun
  | [d1, d2, g1] => { results := [.lit (.bool true)], args := [d1, d2], vars := [g1] }
  | _ => none }
def fnRefusalUnwrapListsMarkThenCauseRow : OpenClaim := { program := "qxb6607686adoor", sum := "8c8255a67edf440824d92ae4f7fb2247a345c3c34cf3f0c4cc229c3af267207f", func := "example.com/outledger/outledger/zzlaws_internal_outbox_b1.FnRefusalUnwrapListsMarkThenCause", spec := "fnRefusalUnwrapListsMarkThenCause", inPlace := ["internal/reflectlite.TypeOf"], unfollowed := true, recurses := true, named := ["example.com/outledger/outledger/internal/outbox.ErrRefused"], ifaces := true, apart := false, laid := [("example.com/outledger/outledger/internal/outbox.ErrRefused", laid_example_com_outledger_outledger_internal_outbox_ErrRefused)] }
def FnRefusalUnwrapListsMarkThenCauseSaid : Prop := fnRefusalUnwrapListsMarkThenCauseRow.holds Tryd.pinned (OpenSpec.ofChange fnRefusalUnwrapListsMarkThenCauseSpec)

/-- ITS FALSE NEIGHBOUR: 'it returns false'. Refute it at one input. -/
def fnRefusalUnwrapListsMarkThenCauseWrong : ChangeSpec := { name := "fnRefusalUnwrapListsMarkThenCause", vars := ["example.com/outledger/outledger/internal/outbox.ErrRefused"], fn := fun _ => fun
  | [d1, d2, g1] => { results := [.lit (.bool false)], args := [d1, d2], vars := [g1] }
  | _ => none }
def FnRefusalUnwrapListsMarkThenCauseWrongFalsely : Prop := fnRefusalUnwrapListsMarkThenCauseRow.holds Tryd.pinned (OpenSpec.ofChange fnRefusalUnwrapListsMarkThenCauseWrong)

/-- 'zzlaws_internal_outbox_b1.FnRefuseTwiceStillReachesTheCause': WHATEVER THE INPUT: true; the input reads as it did. -/
def fnRefuseTwiceStillReachesTheCauseSpec : ChangeSpec := { name := "fnRefuseTwiceStillReachesTheCause", vars := ["example.com/outledger/outledger/internal/outbox.ErrRefused"], fn := fun _ => fun
  | [d1, d2, g1] => { results := [.lit (.bool true)], args := [d1, d2], vars := [g1] }
  | _ => none }
def fnRefuseTwiceStillReachesTheCauseRow : OpenClaim := { program := "qxb6607686adoor", sum := "8c8255a67edf440824d92ae4f7fb2247a345c3c34cf3f0c4cc229c3af267207f", func := "example.com/outledger/outledger/zzlaws_internal_outbox_b1.FnRefuseTwiceStillReachesTheCause", spec := "fnRefuseTwiceStillReachesTheCause", inPlace := ["internal/reflectlite.TypeOf"], unfollowed := true, recurses := true, named := ["example.com/outledger/outledger/internal/outbox.ErrRefused"], ifaces := true, apart := false, laid := [("example.com/outledger/outledger/internal/outbox.ErrRefused", laid_example_com_outledger_outledger_internal_outbox_ErrRefused)] }
def FnRefuseTwiceStillReachesTheCauseSaid : Prop := fnRefuseTwiceStillReachesTheCauseRow.holds Tryd.pinned (OpenSpec.ofChange fnRefuseTwiceStillReachesTheCauseSpec)

/-- ITS FALSE NEIGHBOUR: 'it returns false'. Refute it at one input. -/
def fnRefuseTwiceStillReachesTheCauseWrong : ChangeSpec := { name := "fnRefuseTwiceStillReachesTheCause", vars := ["example.com/outledger/outledger/internal/outbox.ErrRefused"], fn := fun _ => fun
  | [d1, d2, g1] => { results := [.lit (.bool false)], args := [d1, d2], vars := [g1] }
  | _ => none }
def FnRefuseTwiceStillReachesTheCauseWrongFalsely : Prop := fnRefuseTwiceStillReachesTheCauseRow.holds Tryd.pinned (OpenSpec.ofChange fnRefuseTwiceStillReachesTheCauseWrong)

end Rows
end Go.Proofs.Qxb6607686aDoor
