/-
  No cell of these rows narrows 'for every input' (looked for: loops, veiled, ifaces, maps, wideKeys, modest, calm, conditions, laid).
  DERIVED. THE GIVEN ROWS OF THIS SEAT. 5 by the template 'for every input the law returns true; each argument reads behind the call as it read before'; 0 by the template 'total and deterministic' (their statements: Qxb6605841aTotals.lean).
  GIVEN WITH THE SEED: the statements are not yours to turn. If you find one false, say at which input.
  Laid BY PROGRAM, IN A SANDBOX (cutbox-rows.mjs): the forced cells as the released guide's own fill.sh prints them over the translation 2b81312937c1d7f9… (all of the seat's roots in one cut). By AI agents, Wed Nov 11 2026. No macro, syntax, notation, axiom, sorry.
-/
import Derived.Test.Qxb6605841aChecked
import GoSem.Claim
import GoSem.ClaimJoined
import GoSem.ClaimMapViews
import Derived.JoinedTies
import Derived.KernelRfl
namespace Go.Proofs.Qxb6605841a
/- THE CELL 'sum', in the pinned program and in every row, IS THE sha256 OF THE DUMP (.gsa) THAT Qxb6605841aProg.lean LOADS. Nothing in Lean hashes anything: it is a label: what it is worth is what the hold of that sum in a sandbox is worth. -/
noncomputable def Try.pinned : Pinned := { name := "qxb6605841a", sum := "2b81312937c1d7f99fd74ef3e0b022b1d682a3e3a7adeae6d7792768af892faa", checked := Try.checked }
namespace Rows
def none {H : Type} : Left H := { results := [], args := [] }

/-- 'zzlaws_root_b1.FnComparePairsAs128BitSubtraction': WHATEVER THE INPUT: true; the input reads as it did. -/
def fnComparePairsAs128BitSubtractionSpec : ChangeSpec := { name := "fnComparePairsAs128BitSubtraction", fn := fun _ => fun
  | [d1, d2] => { results := [.lit (.bool true)], args := [d1, d2] }
  | _ => none }
def fnComparePairsAs128BitSubtractionRow : OpenClaim := { program := "qxb6605841a", sum := "2b81312937c1d7f99fd74ef3e0b022b1d682a3e3a7adeae6d7792768af892faa", func := "example.com/fundcharter/fundcharter/zzlaws_root_b1.FnComparePairsAs128BitSubtraction", spec := "fnComparePairsAs128BitSubtraction", apart := false }
def FnComparePairsAs128BitSubtractionSaid : Prop := fnComparePairsAs128BitSubtractionRow.holds Try.pinned (OpenSpec.ofChange fnComparePairsAs128BitSubtractionSpec)

/-- ITS FALSE NEIGHBOUR: 'it returns false'. Refute it at one input. -/
def fnComparePairsAs128BitSubtractionWrong : ChangeSpec := { name := "fnComparePairsAs128BitSubtraction", fn := fun _ => fun
  | [d1, d2] => { results := [.lit (.bool false)], args := [d1, d2] }
  | _ => none }
def FnComparePairsAs128BitSubtractionWrongFalsely : Prop := fnComparePairsAs128BitSubtractionRow.holds Try.pinned (OpenSpec.ofChange fnComparePairsAs128BitSubtractionWrong)

/-- 'zzlaws_root_b1.FnComparePairsAsBigEndianBytes': WHATEVER THE INPUT: true; the input reads as it did. -/
def fnComparePairsAsBigEndianBytesSpec : ChangeSpec := { name := "fnComparePairsAsBigEndianBytes", fn := fun _ => fun
  | [d1, d2] => { results := [.lit (.bool true)], args := [d1, d2] }
  | _ => none }
def fnComparePairsAsBigEndianBytesRow : OpenClaim := { program := "qxb6605841a", sum := "2b81312937c1d7f99fd74ef3e0b022b1d682a3e3a7adeae6d7792768af892faa", func := "example.com/fundcharter/fundcharter/zzlaws_root_b1.FnComparePairsAsBigEndianBytes", spec := "fnComparePairsAsBigEndianBytes", apart := false }
def FnComparePairsAsBigEndianBytesSaid : Prop := fnComparePairsAsBigEndianBytesRow.holds Try.pinned (OpenSpec.ofChange fnComparePairsAsBigEndianBytesSpec)

/-- ITS FALSE NEIGHBOUR: 'it returns false'. Refute it at one input. -/
def fnComparePairsAsBigEndianBytesWrong : ChangeSpec := { name := "fnComparePairsAsBigEndianBytes", fn := fun _ => fun
  | [d1, d2] => { results := [.lit (.bool false)], args := [d1, d2] }
  | _ => none }
def FnComparePairsAsBigEndianBytesWrongFalsely : Prop := fnComparePairsAsBigEndianBytesRow.holds Try.pinned (OpenSpec.ofChange fnComparePairsAsBigEndianBytesWrong)

/-- 'zzlaws_root_b1.FnAccountListAtGivesEachAccount': WHATEVER THE INPUT: true; the input reads as it did. -/
def fnAccountListAtGivesEachAccountSpec : ChangeSpec := { name := "fnAccountListAtGivesEachAccount", fn := fun _ => fun
  | [d] => { results := [.lit (.bool true)], args := [d] }
  | _ => none }
def fnAccountListAtGivesEachAccountRow : OpenClaim := { program := "qxb6605841a", sum := "2b81312937c1d7f99fd74ef3e0b022b1d682a3e3a7adeae6d7792768af892faa", func := "example.com/fundcharter/fundcharter/zzlaws_root_b1.FnAccountListAtGivesEachAccount", spec := "fnAccountListAtGivesEachAccount", inPlace := ["internal/abi.NoEscape"], apart := false }
def FnAccountListAtGivesEachAccountSaid : Prop := fnAccountListAtGivesEachAccountRow.holds Try.pinned (OpenSpec.ofChange fnAccountListAtGivesEachAccountSpec)

/-- ITS FALSE NEIGHBOUR: 'it returns false'. Refute it at one input. -/
def fnAccountListAtGivesEachAccountWrong : ChangeSpec := { name := "fnAccountListAtGivesEachAccount", fn := fun _ => fun
  | [d] => { results := [.lit (.bool false)], args := [d] }
  | _ => none }
def FnAccountListAtGivesEachAccountWrongFalsely : Prop := fnAccountListAtGivesEachAccountRow.holds Try.pinned (OpenSpec.ofChange fnAccountListAtGivesEachAccountWrong)

/-- 'zzlaws_root_b1.FnAccountListCloseBlockKeepsTheFullBlock': WHATEVER THE INPUT: true; the input reads as it did. -/
def fnAccountListCloseBlockKeepsTheFullBlockSpec : ChangeSpec := { name := "fnAccountListCloseBlockKeepsTheFullBlock", fn := fun _ => fun
  | [d] => { results := [.lit (.bool true)], args := [d] }
  | _ => none }
def fnAccountListCloseBlockKeepsTheFullBlockRow : OpenClaim := { program := "qxb6605841a", sum := "2b81312937c1d7f99fd74ef3e0b022b1d682a3e3a7adeae6d7792768af892faa", func := "example.com/fundcharter/fundcharter/zzlaws_root_b1.FnAccountListCloseBlockKeepsTheFullBlock", spec := "fnAccountListCloseBlockKeepsTheFullBlock", inPlace := ["internal/abi.NoEscape", "internal/bytealg.MakeNoZero"], apart := false }
def FnAccountListCloseBlockKeepsTheFullBlockSaid : Prop := fnAccountListCloseBlockKeepsTheFullBlockRow.holds Try.pinned (OpenSpec.ofChange fnAccountListCloseBlockKeepsTheFullBlockSpec)

/-- ITS FALSE NEIGHBOUR: 'it returns false'. Refute it at one input. -/
def fnAccountListCloseBlockKeepsTheFullBlockWrong : ChangeSpec := { name := "fnAccountListCloseBlockKeepsTheFullBlock", fn := fun _ => fun
  | [d] => { results := [.lit (.bool false)], args := [d] }
  | _ => none }
def FnAccountListCloseBlockKeepsTheFullBlockWrongFalsely : Prop := fnAccountListCloseBlockKeepsTheFullBlockRow.holds Try.pinned (OpenSpec.ofChange fnAccountListCloseBlockKeepsTheFullBlockWrong)

/-- 'zzlaws_root_b1.FnAccountListFillAndCloseScript': WHATEVER THE INPUT: true; the input reads as it did. -/
def fnAccountListFillAndCloseScriptSpec : ChangeSpec := { name := "fnAccountListFillAndCloseScript", fn := fun _ => fun
  | [d] => { results := [.lit (.bool true)], args := [d] }
  | _ => none }
def fnAccountListFillAndCloseScriptRow : OpenClaim := { program := "qxb6605841a", sum := "2b81312937c1d7f99fd74ef3e0b022b1d682a3e3a7adeae6d7792768af892faa", func := "example.com/fundcharter/fundcharter/zzlaws_root_b1.FnAccountListFillAndCloseScript", spec := "fnAccountListFillAndCloseScript", inPlace := ["internal/abi.NoEscape", "internal/bytealg.MakeNoZero"], apart := false }
def FnAccountListFillAndCloseScriptSaid : Prop := fnAccountListFillAndCloseScriptRow.holds Try.pinned (OpenSpec.ofChange fnAccountListFillAndCloseScriptSpec)

/-- ITS FALSE NEIGHBOUR: 'it returns false'. Refute it at one input. -/
def fnAccountListFillAndCloseScriptWrong : ChangeSpec := { name := "fnAccountListFillAndCloseScript", fn := fun _ => fun
  | [d] => { results := [.lit (.bool false)], args := [d] }
  | _ => none }
def FnAccountListFillAndCloseScriptWrongFalsely : Prop := fnAccountListFillAndCloseScriptRow.holds Try.pinned (OpenSpec.ofChange fnAccountListFillAndCloseScriptWrong)

end Rows
end Go.Proofs.Qxb6605841a
