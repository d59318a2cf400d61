/-
  THE SMALL FUNCTIONS OF THE SEAT, each by its contract: the two bounds, ZZexpOutcome, ZZdropOutcome, zzOne, Lossy's closure.
-/
import Derived.Test.Qxb6605802aRows
import Derived.WalkKit
import Derived.WalkSpells
import Derived.WalkLawsBesides
namespace Go.Proofs.Qxb6605802a
open Go.RowKit

/-- A delay as plain data: none: nil; some none: Drop; some (some m): Exp of mean m. -/
def encD : Option (Option Int) → Value
  | none => .nilIface
  | some none => .iface 45 (.agg #[])
  | some (some m) => .iface 49 (.agg #[.int .i64 m])

def isDrop : Option (Option Int) → Bool
  | some none => true
  | _ => false

/-- The delay that zzOne makes of a description. -/
def delOf (k m : Int) : Option (Option Int) := if k = 0 then none else if k = 1 then some none else some (some m)

theorem run_store_float (P : Program) (w : World) (a : Addr) (m : Mode) (k : FloatKind) (x : Nat) : (store a (.float k x) m).run P w = stored P w a (.float k x) m := run_store P w a _ m rfl
theorem run_store_encD (P : Program) (w : World) (a : Addr) (m : Mode) (d : Option (Option Int)) : (store a (encD d) m).run P w = stored P w a (encD d) m :=
  run_store P w a _ m (by rcases d with _ | _ | _ <;> rfl)
attribute [local go_sem] run_store_float run_store_encD

theorem eq_nil (w : World) : (binOp .eql 37 .nilIface (.iface 45 (.agg #[]))).run Try.prog w = .ok (.bool false) w := by kernel_rfl
theorem eq_drop (w : World) : (binOp .eql 37 (.iface 45 (.agg #[])) (.iface 45 (.agg #[]))).run Try.prog w = .ok (.bool true) w := by kernel_rfl
theorem eq_exp (m : Int) (w : World) : (binOp .eql 37 (.iface 49 (.agg #[.int .i64 m])) (.iface 45 (.agg #[]))).run Try.prog w = .ok (.bool false) w := by kernel_rfl

set_option maxHeartbeats 400000 in
theorem bytes9 (L s p : Value) (a : Option Addr) (n c : Nat) (w : World) (hn : n ≤ 9223372036854775807) :
    Calls Try.prog 9 #[L, .slice a n c, s, p] w fun e w' => e = .returned (.bool (decide (n ≤ 1048576))) ∧ w = w' := by
  by_cases h : (n : Int) ≤ 1048576
  · go_enter Try.func9, Try.ntmps9
    go_wp2
    go_ret
    exact ⟨by simp; omega, rfl⟩
  · go_enter Try.func9, Try.ntmps9
    go_wp2
    go_ret
    exact ⟨by simp; omega, rfl⟩

set_option maxHeartbeats 400000 in
theorem exp10 (x : Nat) (m : Int) (w : World) :
    Calls Try.prog 10 #[.float .f64 x, .int .i64 m] w fun e w' => e = .returned (.agg #[.float .f64 x, encD (some (some m))]) ∧ Below w.heap.size w w' := by
  go_enter Try.func10, Try.ntmps10
  go_wp2
  exact bodyPost_ret (v := .agg #[.float .f64 x, encD (some (some m))]) (by simp [results, Try.results10, encD, go_sem]) rfl ⟨rfl, (Below.refl _ _).alloc (Nat.le_refl _) _⟩

set_option maxHeartbeats 400000 in
theorem drop12 (x : Nat) (w : World) :
    Calls Try.prog 12 #[.float .f64 x] w fun e w' => e = .returned (.agg #[.float .f64 x, encD (some none)]) ∧ Below w.heap.size w w' := by
  go_enter Try.func12, Try.ntmps12
  go_wp2
  exact bodyPost_ret (v := .agg #[.float .f64 x, encD (some none)]) (by simp [results, Try.results12, encD, go_sem]) rfl ⟨rfl, (Below.refl _ _).alloc (Nat.le_refl _) _⟩

set_option maxHeartbeats 400000 in
theorem clo14 (x : Nat) (d : Option (Option Int)) (w : World) :
    Calls Try.prog 14 #[.agg #[.float .f64 x, encD d]] w fun e w' => e = .returned (.bool (isDrop d)) ∧ Below w.heap.size w w' := by
  have h1 := eq_nil
  have h2 := eq_drop
  have h3 := eq_exp
  rcases d with _ | _ | m <;> simp only [encD, isDrop]
  all_goals
    go_enter Try.func14, Try.ntmps14
    go_wp2
    go_ret
    exact ⟨rfl, (Below.refl _ _).alloc (Nat.le_refl _) _⟩

theorem bcell {W w1 : World} (hb : Below W.heap.size W w1) : (∀ b o, b < W.heap.size → w1.cell? ⟨b, o, none⟩ = W.cell? ⟨b, o, none⟩) ∧ (∀ b o, b < W.heap.size → w1.frozen? ⟨b, o, none⟩ = W.frozen? ⟨b, o, none⟩) :=
  ⟨fun b o h => hb.cell (p := ⟨b, o, none⟩) h, fun b o h => hb.frozen (p := ⟨b, o, none⟩) h⟩

set_option maxHeartbeats 400000 in
theorem one11 (x : Nat) (k m : Int) (w : World) :
    Calls Try.prog 11 #[.agg #[.float .f64 x, .int .u8 k, .int .i64 m]] w fun e w' => e = .returned (.agg #[.float .f64 x, encD (delOf k m)]) ∧ Below w.heap.size w w' := by
  by_cases h0 : k = 0
  · subst h0
    simp only [delOf, if_true]
    go_enter Try.func11, Try.ntmps11
    go_wp2
    exact bodyPost_ret (v := .agg #[.float .f64 x, encD none]) (by simp [results, Try.results11, encD, go_sem]) rfl ⟨rfl, ((Below.refl _ _).alloc (Nat.le_refl _) _).alloc (by simp) _⟩
  have hk0 : (k == 0) = false := by simpa using h0
  simp only [delOf, if_neg h0]
  by_cases h1 : k = 1
  · subst h1
    simp only [if_true]
    clear h0 hk0
    go_enter Try.func11, Try.ntmps11
    go_wp2_with (go_at_call 12; refine (drop12 _ _).mono ?_; rintro e w1 ⟨rfl, hb⟩; obtain ⟨hc, hf⟩ := bcell hb; have hz : w.heap.size + 1 < w1.heap.size := by have := hb.size; simp at this; omega)
    exact bodyPost_ret (v := .agg #[.float .f64 x, encD (some none)]) (by simp [results, Try.results11, go_sem, hc]) rfl ⟨rfl, ((((Below.refl _ _).alloc (Nat.le_refl _) _).alloc (by simp) _).trans (hb.mono (by simp; omega))).setCell (by simp) _ |>.setCell (by simp) _⟩
  have hk1 : (k == 1) = false := by simpa using h1
  simp only [if_neg h1]
  go_enter Try.func11, Try.ntmps11
  go_wp2_with (go_at_call 10; refine (exp10 _ _ _).mono ?_; rintro e w1 ⟨rfl, hb⟩; obtain ⟨hc, hf⟩ := bcell hb; have hz : w.heap.size + 1 < w1.heap.size := by have := hb.size; simp at this; omega)
  exact bodyPost_ret (v := .agg #[.float .f64 x, encD (some (some m))]) (by simp [results, Try.results11, go_sem, hc]) rfl ⟨rfl, ((((Below.refl _ _).alloc (Nat.le_refl _) _).alloc (by simp) _).trans (hb.mono (by simp; omega))).setCell (by simp) _ |>.setCell (by simp) _⟩

end Go.Proofs.Qxb6605802a
