/-
  DERIVED. GIVEN WITH THE SEED: THE CARDS: each row of Qxb6605806aFmtRows.lean that lists a variable, with what it lists TIED to the program's text (the seventh form; the later family's looks); each row that meets fmt, with fmt's text TOLD by the authors' own Lean function (tested against real Go, not proved from fmt's source: count such statements apart). THE CARD IS WHAT COUNTS. Prove the row's statement (the work); the ties are given (Qxb6605806aFmtTie.lean); close each card by the builder's one call (the guide's Derived/Test/ToyasCard.lean, 'card_holds'). Laid BY PROGRAM, IN A SANDBOX (cutbox-door.mjs). By AI agents, Wed Nov 11 2026. No macro, syntax, notation, axiom, sorry.
-/
import Derived.Test.Qxb6605806aFmtRows
import GoSem.ClaimSeven
namespace Go.Proofs.Qxb6605806aFmt
namespace Rows

/-- THE TOLD CARD OF 'zzlaws_store_b1.FnElementErrorInjective'. -/
def fnElementErrorInjectiveCard : Claim7 := { stood := { row := fnElementErrorInjectiveRow, standIns := [], harness := (true, "806e722f7dd8ec472fa41d4b1f6cc9b36f385e5521ce7be7aeaa5fe43e28ea60"), looks := false }, told := true, goes := false }
def FnElementErrorInjectiveToldSaid : Prop := Claim7.holds Tryf.pinned (.plain (OpenSpec.ofChange fnElementErrorInjectiveSpec)) fnElementErrorInjectiveCard
/-- ITS FALSE NEIGHBOUR. Refute it at one input. -/
def FnElementErrorInjectiveToldWrongFalsely : Prop := Claim7.holds Tryf.pinned (.plain (OpenSpec.ofChange fnElementErrorInjectiveWrong)) fnElementErrorInjectiveCard
end Rows
end Go.Proofs.Qxb6605806aFmt
