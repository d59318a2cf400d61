/-
  DERIVED. GIVEN WITH THE SEED: THE CARDS: each row of Qxb6607686aDoorRows.lean that lists a variable, with what it lists TIED to the program's text (the seventh form; the later family's looks); each row that meets fmt, with fmt's text TOLD by the authors' own Lean function (tested against real Go, not proved from fmt's source: count such statements apart). THE CARD IS WHAT COUNTS. Prove the row's statement (the work); the ties are given (Qxb6607686aDoorTie.lean); close each card by the builder's one call (the guide's Derived/Test/ToyasCard.lean, 'card_holds'). Laid BY PROGRAM, IN A SANDBOX (cutbox-door.mjs). By AI agents, Wed Nov 11 2026. No macro, syntax, notation, axiom, sorry.
-/
import Derived.Test.Qxb6607686aDoorRows
import GoSem.ClaimSeven
namespace Go.Proofs.Qxb6607686aDoor
namespace Rows

/-- THE TIED CARD OF 'zzlaws_internal_outbox_b1.FnRefuseMarksAndKeepsTheCause'. -/
def fnRefuseMarksAndKeepsTheCauseCard : Claim7 := { stood := { row := fnRefuseMarksAndKeepsTheCauseRow, standIns := [], harness := (true, "4ea2b0ad136bff86f231f01e0e7de5d7ef32866a590e24d5f26758fc8b31a0a1"), looks := true }, kinds := [], alts := [], laidByText := true, laidKinds := [.sentinel], laidTests := true, laidLooks := .later }
def FnRefuseMarksAndKeepsTheCauseCardSaid : Prop := Claim7.holds Tryd.pinned (.plain (OpenSpec.ofChange fnRefuseMarksAndKeepsTheCauseSpec)) fnRefuseMarksAndKeepsTheCauseCard

/-- THE TIED CARD OF 'zzlaws_internal_outbox_b1.FnRefuseTellsTwoCausesApart'. -/
def fnRefuseTellsTwoCausesApartCard : Claim7 := { stood := { row := fnRefuseTellsTwoCausesApartRow, standIns := [], harness := (true, "4ea2b0ad136bff86f231f01e0e7de5d7ef32866a590e24d5f26758fc8b31a0a1"), looks := true }, kinds := [], alts := [], laidByText := true, laidKinds := [.sentinel], laidTests := true, laidLooks := .later }
def FnRefuseTellsTwoCausesApartCardSaid : Prop := Claim7.holds Tryd.pinned (.plain (OpenSpec.ofChange fnRefuseTellsTwoCausesApartSpec)) fnRefuseTellsTwoCausesApartCard

/-- THE TIED CARD OF 'zzlaws_internal_outbox_b1.FnRefusalUnwrapListsMarkThenCause'. -/
def fnRefusalUnwrapListsMarkThenCauseCard : Claim7 := { stood := { row := fnRefusalUnwrapListsMarkThenCauseRow, standIns := [], harness := (true, "4ea2b0ad136bff86f231f01e0e7de5d7ef32866a590e24d5f26758fc8b31a0a1"), looks := true }, kinds := [], alts := [], laidByText := true, laidKinds := [.sentinel], laidTests := true, laidLooks := .later }
def FnRefusalUnwrapListsMarkThenCauseCardSaid : Prop := Claim7.holds Tryd.pinned (.plain (OpenSpec.ofChange fnRefusalUnwrapListsMarkThenCauseSpec)) fnRefusalUnwrapListsMarkThenCauseCard

/-- THE TIED CARD OF 'zzlaws_internal_outbox_b1.FnRefuseTwiceStillReachesTheCause'. -/
def fnRefuseTwiceStillReachesTheCauseCard : Claim7 := { stood := { row := fnRefuseTwiceStillReachesTheCauseRow, standIns := [], harness := (true, "4ea2b0ad136bff86f231f01e0e7de5d7ef32866a590e24d5f26758fc8b31a0a1"), looks := true }, kinds := [], alts := [], laidByText := true, laidKinds := [.sentinel], laidTests := true, laidLooks := .later }
def FnRefuseTwiceStillReachesTheCauseCardSaid : Prop := Claim7.holds Tryd.pinned (.plain (OpenSpec.ofChange fnRefuseTwiceStillReachesTheCauseSpec)) fnRefuseTwiceStillReachesTheCauseCard
end Rows
end Go.Proofs.Qxb6607686aDoor
