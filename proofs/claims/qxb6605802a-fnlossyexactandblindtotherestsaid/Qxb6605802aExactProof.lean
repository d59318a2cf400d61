/-
  FnLossyExactAndBlindToTheRest: the row.
-/
import Derived.Test.Qxb6605802aExactMain
import Derived.Test.Qxb6605802aOpen
import Derived.Below
namespace Go.Proofs.Qxb6605802a
open Go.ChangeShapes Go.WideShapes Go.ChangeAt Go.RowKit
set_option linter.unusedVariables false

theorem walk3 (L : Nat) (a : Option Addr) (n c : Nat) (s : Int) (w : World) (hn : n ≤ maxLen) (h : ∃ f, RowZ w a n f) :
    Calls Try.prog 3 #[.float .f64 L, .slice a n c, .int .u64 s] w fun e w' => e = .returned (.bool true) ∧ Below w.heap.size w w' := by
  unfold maxLen at hn
  obtain ⟨f, hf⟩ := h
  by_cases hx : 32768 < n
  · exact early3 L a n c s w hn hx
  · refine main3 L a n c s f w (by omega) hf (fun e => ?_)
    rcases hf with h | ⟨b, off, rfl, _⟩
    · exact h
    · cases e

set_option maxRecDepth 100000 in
theorem lifted3 (os : Os) (started : os.Started) (H : Type) (enc : TypeId × Value → H) :
    ReturnsInHanded {} Try.checked os 3 .any (Rows.fnLossyExactAndBlindToTheRestSpec.pre6 enc Try.prog Try.f3 Rows.fnLossyExactAndBlindToTheRestRow.domain false) (Rows.fnLossyExactAndBlindToTheRestSpec.post enc Try.prog Try.f3 false true false false) := by
  refine returnsInHanded_of_change (C := Try.checked) own started (by kernel_rfl) Try.func3
    (ChangeSpec.witness6 (enc := enc) (C := Try.checked) false ⟨#[], #[.float .f64 0, .slice none 0 0, .int .u64 0], []⟩ 8 (by kernel_rfl) (by kernel_rfl) (by kernel_rfl) (by kernel_rfl)) ?_
  intro W base args ds gs before hval0 hW hcnd _
  have hval : ∀ (j : Nat) t v, Try.f3.params[j]? = some t → args[j]? = some v → Value.okWide Try.prog W .any base t v := hval0
  have hW' := hW
  obtain ⟨p, q, hA0, hV, rfl, hfz, hnd⟩ := hW
  have hA : DataW.TrodAll enc Try.prog W 0 (fun _ => true) true Try.f3.params.toList args.toList ds p := hA0
  rw [Try.params3] at hA hval
  obtain ⟨v0, vs0, d0, ds0, p0, q0, hargs, rfl, rfl, h0, r0⟩ := trodAll_cons hA
  obtain ⟨v1, vs1, d1, ds1, p1, q1, rfl, rfl, rfl, h1, r1⟩ := trodAll_cons r0
  obtain ⟨v2, vs2, d2, ds2, p2, q2, rfl, rfl, rfl, h2, r2⟩ := trodAll_cons r1
  obtain ⟨rfl, rfl, rfl⟩ := trodAll_nil r2
  obtain rfl : args = #[v0, v1, v2] := by cases args; simp_all
  obtain ⟨rfl, rfl⟩ := trodVars_none hV
  obtain ⟨a0, rfl, rfl, rfl, w0⟩ := open_float Try.underlying22 (hval 0 22 v0 rfl rfl) h0
  obtain ⟨a1, len1, cap1, rfl⟩ := okWide_slice Try.underlying23 (hval 1 23 v1 rfl rfl)
  have k1 := h1
  have lt1 : ∀ x ∈ p1, x.block < W.heap.size := by obtain ⟨m, hm⟩ := k1; exact DataW.trod_lt m _ _ _ hm
  obtain ⟨hm1, hz1⟩ := open_outs h1
  obtain ⟨a2, rfl, rfl, rfl, w2⟩ := open_int Try.underlying24 (hval 2 24 v2 rfl rfl) h2
  clear hA0 hval0
  refine (walk3 a0 a1 len1 cap1 a2 W hm1 hz1).mono fun e W' ⟨he, bel⟩ => ?_
  subst he
  exact ⟨_, rfl, _, _, _, [], _, [], hW', trodAll_mk1 (shut_bool Try.underlying4 _), (trodAll_cons_mk (shut_float Try.underlying22 w0) (trodAll_cons_mk (Below.trod laidOut (by kernel_rfl) (of_decide_eq_true (by kernel_rfl)) k1 bel lt1) (trodAll_cons_mk (shut_int Try.underlying24 w2) trodAll_mk0))), rfl, bel.frame _, fun h => by cases h⟩

theorem over3 : Rows.fnLossyExactAndBlindToTheRestRow.holds Try.pinned (OpenSpec.ofChange Rows.fnLossyExactAndBlindToTheRestSpec) :=
  OpenClaim.holds_of_wide 3 Try.f3 rfl rfl rfl rfl rfl rfl rfl ⟨rfl, rfl, rfl, rfl, rfl⟩ rfl rfl rfl rfl rfl (by kernel_rfl) Try.func3 (by kernel_rfl)
    (of_decide_eq_true (by kernel_rfl)) (by unfold Func.isWrapper; first | (rw [if_pos (by decide +kernel)]; kernel_rfl) | (rw [if_neg (by decide +kernel)]; exact ⟨rfl, rfl⟩))
    (fun os started H enc _ => lifted3 os started H enc)

/-- THE STATEMENT. -/
theorem provedExact : Rows.FnLossyExactAndBlindToTheRestSaid := over3
end Go.Proofs.Qxb6605802a
