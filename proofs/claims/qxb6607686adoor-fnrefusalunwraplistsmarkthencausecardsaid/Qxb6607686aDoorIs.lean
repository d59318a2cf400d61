/-
  errors.Is BY ITS CONTRACTS, after the worked SentryIs, at this dump: errors of errors.New's make, and refusal{err}.
-/
import Derived.Test.Qxb6607686aDoorRows
import Derived.WalkKit
import Derived.LaidEql
import Derived.Stop.Asserts
import Derived.RowKitTokens
import Derived.Deep.RegionWith
namespace Go.Proofs.Qxb6607686aDoor
open Go.RowKit Go.Extern.Stop Go.Stop Go.Extern
set_option linter.unusedVariables false
set_option linter.unusedSimpArgs false

theorem hid {p : Prop} (h : p) : Hid p := h

theorem isTypeOf (v : Value) (w : World) : (Extern.ReflectliteType.typeOf #[.iface 40 v]).run Tryd.prog w = .ok (.iface 48 (.agg #[.pointer (some ⟨1, 40, none⟩)])) w := by kernel_rfl
theorem isComparable (w : World) : ((Extern.ReflectliteType.method fun t => (fun a => Value.bool a.comparable) <$> typeInfo t) #[.agg #[.pointer (some ⟨1, 40, none⟩)]]).run Tryd.prog w = .ok (.bool true) w := by kernel_rfl
theorem isComp : (Tryd.prog.info? 40).map (·.comparable) = some true := by kernel_rfl
theorem isSize : (Tryd.prog.info? 42).map (·.size) = some 1 := by kernel_rfl

theorem noIsE (v : Value) (xT : TypeId) (w : World) : (Instr.typeAssert (.iface 40 v) xT 50 true).run Tryd.prog w = .ok (.tuple #[.nilIface, .bool false]) w := run_typeAssert_lacksB Tryd.underlying50 (by kernel_rfl) (by kernel_rfl) v xT w
theorem noUnwrapE (v : Value) (xT : TypeId) (w : World) : (Instr.typeAssert (.iface 40 v) xT 53 true).run Tryd.prog w = .ok (.tuple #[.nilIface, .bool false]) w := run_typeAssert_lacksB Tryd.underlying53 (by kernel_rfl) (by kernel_rfl) v xT w
theorem noUnwrapsE (v : Value) (xT : TypeId) (w : World) : (Instr.typeAssert (.iface 40 v) xT 55 true).run Tryd.prog w = .ok (.tuple #[.nilIface, .bool false]) w := run_typeAssert_lacksB Tryd.underlying55 (by kernel_rfl) (by kernel_rfl) v xT w
theorem noIsR (v : Value) (xT : TypeId) (w : World) : (Instr.typeAssert (.iface 37 v) xT 50 true).run Tryd.prog w = .ok (.tuple #[.nilIface, .bool false]) w := run_typeAssert_lacksB Tryd.underlying50 (by kernel_rfl) (by kernel_rfl) v xT w
theorem noUnwrapR (v : Value) (xT : TypeId) (w : World) : (Instr.typeAssert (.iface 37 v) xT 53 true).run Tryd.prog w = .ok (.tuple #[.nilIface, .bool false]) w := run_typeAssert_lacksB Tryd.underlying53 (by kernel_rfl) (by kernel_rfl) v xT w
theorem hasUnwrapsR (v : Value) (xT : TypeId) (w : World) : (Instr.typeAssert (.iface 37 v) xT 55 true).run Tryd.prog w = .ok (.tuple #[.iface 37 v, .bool true]) w := run_typeAssert_hasB Tryd.underlying55 (by kernel_rfl) v xT w

/-- errors.is(x, x, true). -/
theorem is_same (a : Addr) (w : World) :
    Calls Tryd.prog 21 #[.iface 40 (.pointer (some a)), .iface 40 (.pointer (some a)), .bool true] w fun e w' => e = .returned (.bool true) ∧ w = w' := by
  obtain ⟨i, hi, hcmp⟩ := Option.map_eq_some_iff.1 isComp
  obtain ⟨j, hj, hjs⟩ := Option.map_eq_some_iff.1 isSize
  have heq := run_eql_iface_ptr_same (P := Tryd.prog) w a Tryd.underlying32 Tryd.underlying40 hi hcmp hj
  go_enter Tryd.func21, Tryd.ntmps21
  go_wp2
  refine wp_loop_rounds 1 ?_
  rw [rounds_succ]
  go_wp2
  go_ret
  exact ⟨rfl, rfl⟩

/-- errors.is(x, y, true), two different errors of errors.New's make. -/
theorem is_other (a b : Addr) (ca cb : Array Value) (ta tb : TypeId) (w : World) (hne : a ≠ b) (ha : w.heap[a.block]? = some (.cells ca ta (0, 0))) (hb : w.heap[b.block]? = some (.cells cb tb (0, 0))) :
    Calls Tryd.prog 21 #[.iface 40 (.pointer (some a)), .iface 40 (.pointer (some b)), .bool true] w fun e w' => e = .returned (.bool false) ∧ w = w' := by
  obtain ⟨i, hi, hcmp⟩ := Option.map_eq_some_iff.1 isComp
  obtain ⟨j, hj, hjs⟩ := Option.map_eq_some_iff.1 isSize
  have nE := noIsE
  have uE := noUnwrapE
  have vE := noUnwrapsE
  have heq := run_eql_iface_ptr_other (P := Tryd.prog) w Tryd.underlying32 Tryd.underlying40 hi hcmp hj (by rw [hjs]; decide) hne ha hb
  go_enter Tryd.func21, Tryd.ntmps21
  go_wp2
  refine wp_loop_rounds 1 ?_
  rw [rounds_succ]
  go_wp2
  go_ret
  exact ⟨rfl, rfl⟩

theorem methodUnwrap (v : Value) (w : World) : (Go.method 196 37 v "Unwrap").run Tryd.prog w = .ok (19, v) w := by kernel_rfl
theorem isMethodComparable (v : Value) (w : World) : (Go.method 196 48 v "Comparable").run Tryd.prog w = .ok (42, v) w := by kernel_rfl

/-- (refusal).Unwrap: the mark, then the cause, in a new row. -/
theorem unwrap19 (a c : Addr) (w : World) (hz : 0 < w.heap.size) (h0 : w.cell? ⟨0, 0, none⟩ = some (.iface 40 (.pointer (some c)))) :
    Calls Tryd.prog 19 #[.agg #[.iface 40 (.pointer (some a))]] w fun e w' => e = .returned (.slice (some ⟨w.heap.size + 1, 0, none⟩) 2 2) ∧ w' = (w.alloc (.cells #[.iface 40 (.pointer (some a))] 37)).alloc (.cells #[.iface 40 (.pointer (some c)), .iface 40 (.pointer (some a))] 32) := by
  go_enter Tryd.func19, Tryd.ntmps19
  go_wp2
  go_ret
  exact ⟨rfl, rfl⟩

/-- errors.is(refusal{x}, y, true): the mark is asked, then the cause. -/
theorem is_refusal (a b c : Addr) (r0 r1 : Bool) (w : World) (hz : 0 < w.heap.size) (h0 : w.cell? ⟨0, 0, none⟩ = some (.iface 40 (.pointer (some c))))
    (k0 : ∀ W, Below w.heap.size w W → Calls Tryd.prog 21 #[.iface 40 (.pointer (some c)), .iface 40 (.pointer (some b)), .bool true] W fun e w' => e = .returned (.bool r0) ∧ W = w')
    (k1 : ∀ W, Below w.heap.size w W → Calls Tryd.prog 21 #[.iface 40 (.pointer (some a)), .iface 40 (.pointer (some b)), .bool true] W fun e w' => e = .returned (.bool r1) ∧ W = w') :
    Calls Tryd.prog 21 #[.iface 37 (.agg #[.iface 40 (.pointer (some a))]), .iface 40 (.pointer (some b)), .bool true] w fun e w' => e = .returned (.bool (r0 || r1)) ∧ Below w.heap.size w w' := by
  have nR := noIsR
  have uR := noUnwrapR
  have vR := hasUnwrapsR
  have mU := methodUnwrap
  have hty := run_eql_iface_types (P := Tryd.prog) 37 40 (.agg #[.iface 40 (.pointer (some a))]) (.pointer (some b)) Tryd.underlying32 (by decide) w
  have hun := unwrap19 a c w hz h0
  go_enter Tryd.func21, Tryd.ntmps21
  go_wp2
  refine wp_loop_rounds 1 ?_
  rw [rounds_succ]
  go_wp2_with (go_at_call 19; refine hun.mono ?_; rintro e w1 ⟨rfl, rfl⟩)
  have hB : Below w.heap.size w ((w.alloc (.cells #[.iface 40 (.pointer (some a))] 37)).alloc (.cells #[.iface 40 (.pointer (some c)), .iface 40 (.pointer (some a))] 32)) := ((Below.refl _ w).alloc (Nat.le_refl _) _).alloc (by simp) _
  have c0 := k0 _ hB
  have c1 := k1 _ hB
  have HB := hid hB
  clear k0 k1 hB
  refine wp_loop_rounds 3 ?_
  rw [rounds_succ]
  cases r0 with
  | true =>
    go_wp2_with (go_at_call 21; refine c0.mono ?_; rintro e w1 ⟨rfl, rfl⟩)
    go_ret
    exact ⟨by simp, HB.out⟩
  | false =>
    go_wp2_with (go_at_call 21; refine c0.mono ?_; rintro e w1 ⟨rfl, rfl⟩)
    rw [rounds_succ]
    cases r1 with
    | true =>
      go_wp2_with (go_at_call 21; refine c1.mono ?_; rintro e w1 ⟨rfl, rfl⟩)
      go_ret
      exact ⟨by simp, HB.out⟩
    | false =>
      go_wp2_with (go_at_call 21; refine c1.mono ?_; rintro e w1 ⟨rfl, rfl⟩)
      rw [rounds_succ]
      go_wp2
      go_ret
      exact ⟨by simp, HB.out⟩

end Go.Proofs.Qxb6607686aDoor
