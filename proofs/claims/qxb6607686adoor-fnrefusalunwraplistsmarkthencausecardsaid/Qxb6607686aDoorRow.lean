/-
  The row: the listed variable, the wrap, the statement for every input.
-/
import Derived.Test.Qxb6607686aDoorWalk
import Derived.Test.Qxb6607686aDoorLaw
import Derived.ChangeSame
import Derived.ChangeVars
import Derived.JoinedOf
import Derived.RowKit
import Derived.RowKitTokens
import Derived.LaidLaws
import Derived.Stop.LaidErr
import Derived.ChangeMaps5
namespace Go.Proofs.Qxb6607686aDoor
open Go.ChangeShapes Go.WideShapes Go.RowKit
open Go.ChangeMaps (open_string shut_string)
set_option linter.unusedVariables false
set_option linter.unusedSimpArgs false

/-- The listed variable's name, by the given row's own cell. -/
abbrev nm : String := Rows.fnRefusalUnwrapListsMarkThenCauseSpec.vars.headD ""

/-- The name of the variable's dynamic type, by the given datum. -/
def dynName : DataW Unit → String
  | .iface n _ => n
  | _ => ""
abbrev nmE : String := dynName Rows.laid_example_com_outledger_outledger_internal_outbox_ErrRefused

/-- The variable's text, by the given datum. -/
def dynText : DataW Unit → List UInt8
  | .iface _ (.ptr (.agg [.lit (.string t)])) => t
  | _ => []
abbrev txt : List UInt8 := dynText Rows.laid_example_com_outledger_outledger_internal_outbox_ErrRefused

abbrev spec : ChangeSpec := Rows.fnRefusalUnwrapListsMarkThenCauseSpec
abbrev row : OpenClaim := Rows.fnRefusalUnwrapListsMarkThenCauseRow

theorem own : ownKnob Tryd.prog.godebug = none := by kernel_rfl
theorem gE : Tryd.prog.globalNamed nm = some 0 := by kernel_rfl
theorem gEType : (Tryd.prog.globals[0]?).map (·.type) = some 32 := by kernel_rfl
theorem cells42 : Tryd.prog.cellsOf 42 = 1 := by kernel_rfl
theorem cells9 : Tryd.prog.cellsOf 9 = 1 := by kernel_rfl
theorem laidList : row.laid = [(nm, .iface nmE (.ptr (.agg [.lit (.string txt)])))] := rfl

theorem row40 (u : TypeId) (h : Tryd.prog.typeName? 3 u = some nmE) : u = 40 :=
  typeName_ptr_named (nm := "errors.errorString") (by kernel_rfl) (by kernel_rfl) (by decide) u h

/-- What the cell 'laid' gives: the variable holds a pointer at a block that is not frozen. -/
theorem sentinel_of_laid {W : World} (h : laidMet Tryd.prog row.laid W) :
    ∃ (a0 : Addr) (c0 : Array Value) (t0 : TypeId), W.var? Tryd.prog nm = some #[.iface 40 (.pointer (some a0))] ∧ W.heap[a0.block]? = some (.cells c0 t0 (0, 0)) := by
  rw [laidList] at h
  obtain ⟨ps, ⟨g0, t0, cs0, f0, p0, q0, hg0, ht0, hv0, hd0, hq0, e0⟩, hnd, hrows⟩ := h
  obtain rfl := Option.some.inj (gE.symm.trans hg0)
  obtain rfl := Option.some.inj (gEType.symm.trans ht0)
  have hq0' : q0 = [] := hq0
  subst hq0'
  subst e0
  obtain ⟨l0⟩ := cs0
  have ok0 : ∀ u v, l0 = [.iface u v] → Value.okWide Tryd.prog W .any 0 u v := fun u v e => by
    subst e
    exact (hrows 0 0 (by simp [MemPlace.row])).2 u v (by simpa using World.var?_cell hg0 hv0 0)
  obtain ⟨a0, s0, rfl, hc0, hs0, hz0, rfl⟩ := errorString_of_trod Tryd.underlying32 row40 Tryd.underlying40 Tryd.underlying42 rfl rfl Tryd.underlying9 cells42 cells9 hd0 ok0
  obtain ⟨c0, t0, hb0⟩ := (hrows a0.block a0.off (by simp [MemPlace.row])).1
  exact ⟨a0, c0, t0, hv0, hb0⟩

/-- A world that meets the condition. -/
noncomputable def low : Nat := (World.holding Tryd.prog default ⟨#[], #[], []⟩).heap.size
noncomputable def laidWorld (os : Os) : World :=
  let w0 := World.holding Tryd.prog os ⟨#[.cells #[.string ⟨txt.toArray⟩] 42], #[], []⟩
  { w0 with heap := w0.heap.modify 0 fun
      | .cells _ t frozen => .cells #[.iface 40 (.pointer (some ⟨low, 0, none⟩))] t frozen
      | o => o }
theorem laidWorld_met (os : Os) (args : Array Value) : laidMet Tryd.prog row.laid ((laidWorld os).forCall (fun _ _ => 0) ⟨#[], args, []⟩).memory :=
  laidMet_of_run (ps := [.cell 0 0, .cell low 0]) 8 (by kernel_rfl) (by kernel_rfl) (by kernel_rfl)

/-- The variable reads behind the call as it did. -/
theorem var_below {W W' : World} {cs : Array Value} (hb : Below W.heap.size W W') (hz : 0 < W.heap.size) (h : W.var? Tryd.prog nm = some cs) : W'.var? Tryd.prog nm = some cs := by
  unfold World.var? at h ⊢
  rw [gE] at h ⊢
  simp only [Option.bind_some] at h ⊢
  rw [hb.block 0 hz]
  exact h

set_option maxRecDepth 100000 in
theorem lifted (os : Os) (started : os.Started) (H : Type) (enc : TypeId × Value → H) :
    ReturnsInHanded {} Tryd.checked os 5 .any (fun w args => (spec.pre enc Tryd.prog Tryd.f5 [] false w args ∧ laidMet Tryd.prog row.laid w) ∧ sizedMet enc Tryd.prog Tryd.f5 (OpenSpec.ofChange spec) false w args)
      (spec.post enc Tryd.prog Tryd.f5 false true false false) := by
  refine returnsInHanded_of_change_and (C := Tryd.checked) (X := fun w _ => laidMet Tryd.prog row.laid w) (fun _ _ _ hh h => h.of_heap hh) own started (by kernel_rfl) Tryd.func5
    (ChangeSpec.witness_at (enc := enc) (C := Tryd.checked) (os := os) (X := fun w _ => laidMet Tryd.prog row.laid w) false (laidWorld os) #[.string ⟨#[]⟩, .string ⟨#[]⟩] 8 rfl (by kernel_rfl) (by kernel_rfl) (by kernel_rfl) (by kernel_rfl) (by kernel_rfl) (laidWorld_met os _)) ?_
  intro W base args ds gs before hval0 hW _ _ hL _
  have hval : ∀ (j : Nat) t v, Tryd.f5.params[j]? = some t → args[j]? = some v → Value.okWide Tryd.prog W .any base t v := hval0
  have hW' := hW
  obtain ⟨p, q, hA0, hV0, rfl, hfz, hnd⟩ := hW
  have hA : DataW.TrodAll enc Tryd.prog W 0 (fun _ => true) true Tryd.f5.params.toList args.toList ds p := hA0
  have hV : DataW.TrodVars enc Tryd.prog W (fun _ => true) [nm] gs q := hV0
  rw [Tryd.params5] at hA hval
  obtain ⟨v0, v1, d0, d1, p0, p1, rfl, rfl, rfl, h0, h1⟩ := trodAll_two hA
  obtain ⟨s, rfl, rfl, rfl, hs⟩ := open_string Tryd.underlying9 (hval 0 9 v0 rfl rfl) h0
  obtain ⟨t, rfl, rfl, rfl, ht⟩ := open_string Tryd.underlying9 (hval 1 9 v1 rfl rfl) h1
  obtain ⟨a0, c0, t0, hv0, hb0⟩ := sentinel_of_laid hL
  obtain ⟨rfl, rfl⟩ := hV.unique (vars_read1 enc gE gEType Tryd.underlying32 hv0 trivial _)
  clear hA0 hV0 hval0
  have hg0 : W.cell? ⟨0, 0, none⟩ = some (.iface 40 (.pointer (some a0))) := by simpa using World.var?_cell gE hv0 0
  have hpos : 0 < W.heap.size := by
    rcases Nat.lt_or_ge 0 W.heap.size with h | h
    · exact h
    · simp [World.cell?, Array.getElem?_eq_none h] at hg0
  have e1 : spec.fn H ([.lit (.string s.data.toList), .lit (.string t.data.toList)] ++ [tok enc (.iface 40 (.pointer (some a0)))]) = { results := [.lit (.bool true)], args := [.lit (.string s.data.toList), .lit (.string t.data.toList)], vars := [tok enc (.iface 40 (.pointer (some a0)))] } := by simp [spec, Rows.fnRefusalUnwrapListsMarkThenCauseSpec]
  have hs' : s.size ≤ 9223372036854775807 := Nat.le_trans hs (by decide)
  have ht' : t.size ≤ 9223372036854775807 := Nat.le_trans ht (by decide)
  refine (law5 s t W hs' ht' (unwrap13 s t a0 c0 t0 W hpos hg0 hb0)).mono fun e W' ⟨he, hb⟩ => ?_
  subst he
  refine ⟨_, rfl, _, _, _, [], [], [.cell 0 0], hW', ?_, ?_, ?_, hb.frame _, fun h => by cases h⟩
  · rw [e1]; exact trodAll_mk1 (shut_bool Tryd.underlying4 true)
  · rw [e1]; exact trodAll_mk2 (shut_string Tryd.underlying9 hs) (shut_string Tryd.underlying9 ht)
  · rw [e1]; exact vars_read1 enc gE gEType Tryd.underlying32 (var_below hb hpos hv0) trivial _

theorem over5 : Rows.FnRefusalUnwrapListsMarkThenCauseSaid :=
  OpenClaim.holds_of_wide 5 Tryd.f5 rfl rfl rfl rfl rfl rfl rfl ⟨rfl, rfl, rfl, rfl, rfl⟩ rfl rfl rfl rfl rfl (by kernel_rfl) Tryd.func5 (by kernel_rfl)
    (of_decide_eq_true (by kernel_rfl)) (by unfold Func.isWrapper; rw [if_neg (of_decide_eq_false (by kernel_rfl))]; exact ⟨rfl, rfl⟩)
    (fun os started H enc _ => lifted os started H enc)

end Go.Proofs.Qxb6607686aDoor
