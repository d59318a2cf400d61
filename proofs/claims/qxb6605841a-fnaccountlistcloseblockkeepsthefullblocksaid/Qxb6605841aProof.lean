/-
  THE PROOF OF THE STATEMENT: the row's step, after the guide's own way.
-/
import Derived.Test.Qxb6605841aRows
import Derived.Test.Qxb6605841aMain
import Derived.ProofKit
import Derived.OpenShut
import Derived.ShutString
import Derived.SliceStrings
import Derived.ChangeOld
import Derived.Below
namespace Go.Proofs.Qxb6605841a
open Go.ChangeShapes Go.WideShapes Go.ChangeAt Go.RowKit
open Go.ChangeMaps (open_string shut_string)
set_option linter.unusedVariables false

theorem own : ownKnob Try.prog.godebug = none := by kernel_rfl
theorem laidOut : laidOutB Try.prog = true := by kernel_rfl
theorem cells9 : Try.prog.cellsOf 9 = 1 := by kernel_rfl

theorem walk6 (a : Option Addr) (n c : Nat) (f : Nat → ByteArray) (w : World) (hn : n ≤ 9223372036854775807) (hs : ∀ j, j < n → (f j).size ≤ 9223372036854775807) (h : RowS w a n f) (hnil : a = none → n = 0) :
    Calls Try.prog 6 #[.slice a n c] w fun e w' => e = .returned (.bool true) ∧ Below w.heap.size w w' := by
  by_cases hok : n ≤ 65536 ∧ 0 < n ∧ n % 4096 = 0
  · obtain ⟨h1, h2, h3⟩ := hok
    cases a with
    | none => have := hnil rfl; omega
    | some x =>
      obtain ⟨K, hK⟩ : ∃ K, n = (K + 1) * 4096 := ⟨n / 4096 - 1, by omega⟩
      exact main6 x n c K f w hs h hK (by omega)
  · refine (early6 a n c f w hn hs h hok).mono ?_
    rintro e w' ⟨he, rfl⟩
    exact ⟨he, Below.refl _ _⟩

/-- The slice of texts that came in. -/
theorem open_rowS {H : Type} {enc : TypeId × Value → H} {w : World} {spare : Nat → Bool} {held : Bool} {a : Option Addr} {len cap : Nat} {d : DataW H} {ps : List MemPlace}
    (h : DataW.Trod enc Try.prog w 0 spare held 28 (.slice a len cap) d ps) : len ≤ 9223372036854775807 ∧ (a = none → len = 0) ∧ ∃ f, RowS w a len f ∧ ∀ j, j < len → (f j).size ≤ 9223372036854775807 := by
  obtain ⟨fuel, hf⟩ := h
  rcases open_strings Try.underlying28 Try.underlying9 cells9 hf with ⟨hcs, _⟩ | ⟨x, l, c, ss, hcs, _, hl, hm, hlen, _, hcell, hsz⟩
  · simp [Value.cells] at hcs
    obtain ⟨rfl, rfl, rfl⟩ := hcs
    exact ⟨by omega, fun _ => rfl, fun _ => ByteArray.empty, .inl rfl, fun j hj => absurd hj (Nat.not_lt_zero _)⟩
  · simp [Value.cells] at hcs
    obtain ⟨rfl, rfl, rfl⟩ := hcs
    have hm' : cap ≤ 9223372036854775807 := by simpa [maxLen] using hm
    have hls : len ≤ ss.length := by rw [hlen]; split <;> omega
    refine ⟨by omega, fun e => (by cases e), fun j => ss.getD j ByteArray.empty, ?_, fun j hj => ?_⟩
    · by_cases h0 : len = 0
      · exact .inl h0
      right
      obtain ⟨b, off, spot⟩ := x
      have c0 := hcell 0 (by omega)
      have hspot : spot = none := by simpa [Addr.add] using World.cell?_spot c0
      subst hspot
      refine ⟨b, off, rfl, by simpa [Addr.add] using lt_of_cell c0, fun j hj => ?_⟩
      have := hcell j (by omega)
      unfold Addr.add at this
      split at this
      · rename_i e; subst e; simpa using this
      · simpa using this
    · have hj' : j < ss.length := by omega
      have := hsz (ss.getD j ByteArray.empty) (by rw [List.getD_eq_getElem?_getD, List.getElem?_eq_getElem hj', Option.getD_some]; exact List.getElem_mem _)
      simpa [maxLen] using this

set_option maxRecDepth 100000 in
theorem lifted6 (os : Os) (started : os.Started) (H : Type) (enc : TypeId × Value → H) :
    ReturnsInHanded {} Try.checked os 6 .any (Rows.fnAccountListCloseBlockKeepsTheFullBlockSpec.pre6 enc Try.prog Try.f6 Rows.fnAccountListCloseBlockKeepsTheFullBlockRow.domain false) (Rows.fnAccountListCloseBlockKeepsTheFullBlockSpec.post enc Try.prog Try.f6 false true false false) := by
  refine returnsInHanded_of_change (C := Try.checked) own started (by kernel_rfl) Try.func6
    (ChangeSpec.witness6 (enc := enc) (C := Try.checked) false ⟨#[], #[.slice none 0 0], []⟩ 6 (by kernel_rfl) (by kernel_rfl) (by kernel_rfl) (by kernel_rfl)) ?_
  intro W base args ds gs before hval0 hW hcnd _
  have hval : ∀ (j : Nat) t v, Try.f6.params[j]? = some t → args[j]? = some v → Value.okWide Try.prog W .any base t v := hval0
  have hW' := hW
  obtain ⟨p, q, hA0, hV, rfl, hfz, hnd⟩ := hW
  have hA : DataW.TrodAll enc Try.prog W 0 (fun _ => true) true Try.f6.params.toList args.toList ds p := hA0
  rw [Try.params6] at hA hval
  obtain ⟨v0, vs0, d0, ds0, p0, q0, hargs, rfl, rfl, h0, r0⟩ := trodAll_cons hA
  obtain ⟨rfl, rfl, rfl⟩ := trodAll_nil r0
  obtain rfl : args = #[v0] := by cases args; simp_all
  obtain ⟨rfl, rfl⟩ := trodVars_none hV
  obtain ⟨a0, len0, cap0, rfl⟩ := okWide_slice Try.underlying28 (hval 0 28 v0 rfl rfl)
  have k0 := h0
  have lt0 : ∀ x ∈ p0, x.block < W.heap.size := by obtain ⟨m, hm⟩ := k0; exact DataW.trod_lt m _ _ _ hm
  obtain ⟨hn0, hnil0, f, hr0, hs0⟩ := open_rowS h0
  clear hA0 hval0
  refine (walk6 a0 len0 cap0 f W hn0 hs0 hr0 hnil0).mono fun e W' ⟨he, bel⟩ => ?_
  subst he
  exact ⟨_, rfl, _, _, _, [], _, [], hW', trodAll_mk1 (shut_bool Try.underlying4 _), (trodAll_cons_mk (Below.trod laidOut (by kernel_rfl) (of_decide_eq_true (by kernel_rfl)) k0 bel lt0) trodAll_mk0), rfl, bel.frame _, fun h => by cases h⟩

theorem over6 : Rows.fnAccountListCloseBlockKeepsTheFullBlockRow.holds Try.pinned (OpenSpec.ofChange Rows.fnAccountListCloseBlockKeepsTheFullBlockSpec) :=
  OpenClaim.holds_of_wide 6 Try.f6 rfl rfl rfl rfl rfl rfl rfl ⟨rfl, rfl, rfl, rfl, rfl⟩ rfl rfl rfl rfl rfl (by kernel_rfl) Try.func6 (by kernel_rfl)
    (of_decide_eq_true (by kernel_rfl)) (by unfold Func.isWrapper; first | (rw [if_pos (by decide +kernel)]; kernel_rfl) | (rw [if_neg (by decide +kernel)]; exact ⟨rfl, rfl⟩))
    (fun os started H enc _ => lifted6 os started H enc)

/-- THE STATEMENT. -/
theorem provedClose : Rows.FnAccountListCloseBlockKeepsTheFullBlockSaid := over6
end Go.Proofs.Qxb6605841a
