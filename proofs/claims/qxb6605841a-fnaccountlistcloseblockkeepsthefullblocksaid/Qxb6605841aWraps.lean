/-
  The exported wraps.
-/
import Derived.Test.Qxb6605841aAt
namespace Go.Proofs.Qxb6605841a
open Go.RowKit
set_option linter.unusedVariables false
set_option linter.unusedSimpArgs false

set_option maxHeartbeats 1000000 in
theorem wrap17 (x : Value) (i : Int) (y : ByteArray) (w : World) (a : Addr) (hx : x = .pointer (some a)) (h : Calls Try.prog 28 #[x, .int .i64 i] w fun e' w' => e' = .returned (.string y) ∧ ∃ q, w' = w.drewN q) :
    Calls Try.prog 17 #[x, .int .i64 i] w fun e' w' => e' = .returned (.string y) ∧ ∃ q, w' = w.drewN q := by
  subst hx
  go_enter Try.func17, Try.ntmps17
  go_wp2_with (go_at_call 28; refine h.mono ?_; rintro e' w1 ⟨rfl, q, rfl⟩)
  go_ret
  exact ⟨rfl, q, rfl⟩

set_option maxHeartbeats 1000000 in
theorem wrap19 (B : Nat) (w : World) {R : World → Prop} (h : Calls Try.prog 29 #[.pointer (some ⟨B, 0, none⟩)] w fun e' w' => e' = .returned (.tuple #[]) ∧ R w') :
    Calls Try.prog 19 #[.pointer (some ⟨B, 0, none⟩)] w fun e' w' => e' = .returned (.tuple #[]) ∧ R w' := by
  go_enter Try.func19, Try.ntmps19
  go_wp2_with (go_at_call 29; refine h.mono ?_; rintro e' w1 ⟨rfl, hR⟩; have HR := hid hR; clear hR)
  go_end0
  exact ⟨rfl, HR.out⟩

set_option maxHeartbeats 1000000 in
theorem full20 (B m cap : Nat) (a : Option Addr) (p v e n : Value) (w : World) (h : ListAt w B (.slice a m cap) p v e n) :
    Calls Try.prog 20 #[.pointer (some ⟨B, 0, none⟩)] w fun e' w' => e' = .returned (.slice a m cap) ∧ w = w' := by
  have c0 := h.c0
  clear h
  go_enter Try.func20, Try.ntmps20
  go_wp2
  go_ret
  exact ⟨rfl, rfl⟩

set_option maxHeartbeats 1000000 in
theorem len21 (B m cap : Nat) (a : Option Addr) (u p e n : Value) (w : World) (h : ListAt w B u p (.slice a m cap) e n) :
    Calls Try.prog 21 #[.pointer (some ⟨B, 0, none⟩)] w fun e' w' => e' = .returned (.int .i64 m) ∧ w = w' := by
  have hc := len30 B m cap a u p e n w h
  go_enter Try.func21, Try.ntmps21
  go_wp2_with (go_at_call 30; refine hc.mono ?_; rintro e' w1 ⟨rfl, rfl⟩)
  go_ret
  exact ⟨rfl, rfl⟩

set_option maxHeartbeats 1000000 in
theorem cap22 (B m cap : Nat) (a : Option Addr) (u p e n : Value) (w : World) (h : ListAt w B u p (.slice a m cap) e n) :
    Calls Try.prog 22 #[.pointer (some ⟨B, 0, none⟩)] w fun e' w' => e' = .returned (.int .i64 cap) ∧ w = w' := by
  have hc := cap31 B m cap a u p e n w h
  go_enter Try.func22, Try.ntmps22
  go_wp2_with (go_at_call 31; refine hc.mono ?_; rintro e' w1 ⟨rfl, rfl⟩)
  go_ret
  exact ⟨rfl, rfl⟩

end Go.Proofs.Qxb6605841a
