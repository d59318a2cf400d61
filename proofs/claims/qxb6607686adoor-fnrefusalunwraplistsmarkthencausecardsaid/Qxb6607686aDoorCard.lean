/-
  The tied card.
-/
import Derived.Test.Qxb6607686aDoorRow
import Derived.Test.Qxb6607686aDoorTie
import Derived.Test.Qxb6607686aDoorCards
import Derived.SevenTiedAt
namespace Go.Proofs.Qxb6607686aDoor
open Go

theorem provedRefusal : Rows.FnRefusalUnwrapListsMarkThenCauseCardSaid :=
  Claim7.holds_tied_plain_at .later [] [.sentinel] true (true, "4ea2b0ad136bff86f231f01e0e7de5d7ef32866a590e24d5f26758fc8b31a0a1") true
    over5 (fun _ h => by cases h) (by kernel_rfl) (fun _ h => by cases h) fnRefusalUnwrapListsMarkThenCause_row_tie rfl ⟨rfl, rfl⟩ (by kernel_rfl) rfl
    (fun f fn hf hfn => by
      obtain rfl : f = 5 := Option.some.inj ((show Tryd.prog.funcNamed row.func = some 5 by kernel_rfl).symm.trans hf) |>.symm
      obtain rfl : fn = Tryd.f5 := (Option.some.inj (Tryd.func5.symm.trans hfn)).symm
      exact ⟨by kernel_rfl, fun j t ht => by
        rw [Tryd.params5] at ht
        have h9 : t = 9 := by
          rcases j with _ | _ | j
          · simpa using ht.symm
          · simpa using ht.symm
          · simp at ht
        subst h9
        exact (show Tryd.prog.wantsStandIn 9 = false by kernel_rfl)⟩)
    (by kernel_rfl)

end Go.Proofs.Qxb6607686aDoor
