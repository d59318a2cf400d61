/-
  FnLossyExactAndBlindToTheRest: the walk.
-/
import Derived.Test.Qxb6605802aExpect
import Derived.Test.Qxb6605802aBuild
import Derived.BigRegion
namespace Go.Proofs.Qxb6605802a
open Go.RowKit
set_option linter.unusedVariables false
set_option linter.unusedSimpArgs false

theorem unary_negf (k : FloatKind) (b : Nat) : Op.unary .neg (.float k b) = pure (.float k (Op.negFloat k b)) := rfl
attribute [local go_sem] run_store_float run_store_encD unary_negf

set_option maxHeartbeats 400000 in
theorem bytes5 (L s : Value) (a : Option Addr) (n c : Nat) (w : World) (hn : n ≤ 9223372036854775807) :
    Calls Try.prog 5 #[L, .slice a n c, s] w fun e w' => e = .returned (.bool (decide (n ≤ 1048576))) ∧ w = w' := by
  by_cases h : (n : Int) ≤ 1048576
  · go_enter Try.func5, Try.ntmps5
    go_wp2
    go_ret
    exact ⟨by simp; omega, rfl⟩
  · go_enter Try.func5, Try.ntmps5
    go_wp2
    go_ret
    exact ⟨by simp; omega, rfl⟩

set_option maxHeartbeats 400000 in
theorem early3 (L : Nat) (a : Option Addr) (n c : Nat) (s : Int) (w : World) (hn : n ≤ 9223372036854775807) (h : 32768 < n) :
    Calls Try.prog 3 #[.float .f64 L, .slice a n c, .int .u64 s] w fun e w' => e = .returned (.bool true) ∧ Below w.heap.size w w' := by
  by_cases h1 : 1048576 < n
  · have hd : decide (n ≤ 1048576) = false := by simpa using h1
    clear h
    go_enter Try.func3, Try.ntmps3
    go_wp2_with (go_at_call 5; refine (bytes5 _ _ _ _ _ _ hn).mono ?_; rintro e w1 ⟨rfl, rfl⟩; rw [hd])
    go_ret
    exact ⟨rfl, Below.refl _ _⟩
  have hd : decide (n ≤ 1048576) = true := by simpa using h1
  have h3 : (32768 : Int) < (n : Int) := by omega
  clear h
  go_enter Try.func3, Try.ntmps3
  go_wp2_with (go_at_call 5; refine (bytes5 _ _ _ _ _ _ hn).mono ?_; rintro e w1 ⟨rfl, rfl⟩; rw [hd])
  go_ret
  exact ⟨rfl, Below.refl _ _⟩

/-- The row of n descriptions of the call's own in block b. -/
def GoodZ (Q : Nat → Nat × Int × Int → Prop) (w : World) (b n : Nat) : Prop :=
  b < w.heap.size ∧ ∀ j, j < n → ∃ z, Q j z ∧ w.cell? ⟨b, j * 3, none⟩ = some (.float .f64 z.1) ∧ w.cell? ⟨b, j * 3 + 1, none⟩ = some (.int .u8 z.2.1) ∧ w.cell? ⟨b, j * 3 + 2, none⟩ = some (.int .i64 z.2.2) ∧
    w.frozen? ⟨b, j * 3, none⟩ = false ∧ w.frozen? ⟨b, j * 3 + 1, none⟩ = false ∧ w.frozen? ⟨b, j * 3 + 2, none⟩ = false

def zero3 (n : Nat) : Array Value := madeCells #[.float .f64 0, .int .u8 0, .int .i64 0] (n * 3)
theorem zero3_at (n j i : Nat) (h : j < n) (hi : i < 3) : (zero3 n)[j * 3 + i]? = #[.float .f64 0, .int .u8 0, .int .i64 0][i]? := by
  have h1 : j * 3 + i < n * 3 := by omega
  have h2 : (j * 3 + i) % 3 = i := by omega
  simp [zero3, madeCells, h1, h2, hi]

theorem info34 : (Try.prog.info? 34).map (fun i => (i.zero, i.size, i.bytes)) = some (some (.agg #[.float .f64 0, .int .u8 0, .int .i64 0]), 3, 24) := by kernel_rfl

theorem make23 (n : Nat) (hn : n ≤ 1048576) (w : World) :
    (Instr.makeSlice 23 (.int .i64 (n : Int)) (.int .i64 (n : Int))).run Try.prog w = .ok (.slice (some ⟨w.heap.size, 0, none⟩) n n) (w.alloc (.cells (zero3 n) 34)) := by
  obtain ⟨i, hi, hz, hs, hb⟩ := info_parts info34
  have hr := run_make (P := Try.prog) w 23 34 i _ Try.underlying23 hi hz .i64 .i64 n n (by omega) (Int.le_refl _) (by rw [hb]; omega) (by omega)
  simp only [Int.toNat_natCast, hs] at hr
  exact hr

theorem GoodZ.made {Q : Nat → Nat × Int × Int → Prop} (w : World) (n : Nat) (hQ : ∀ j, Q j (0, 0, 0)) : GoodZ Q (w.alloc (.cells (zero3 n) 34)) w.heap.size n := by
  refine ⟨by simp, fun j hj => ⟨(0, 0, 0), hQ j, ?_, ?_, ?_, ?_, ?_, ?_⟩⟩
  · have := zero3_at n j 0 hj (by omega); simpa using this
  · have := zero3_at n j 1 hj (by omega); simpa using this
  · have := zero3_at n j 2 hj (by omega); simpa using this
  · simp
  · simp
  · simp

theorem GoodZ.turn {Q Q' : Nat → Nat × Int × Int → Prop} {w : World} {b n : Nat} (h : GoodZ Q w b n) {k : Nat} (hk : k < n) (z : Nat × Int × Int) (hq : Q' k z) (ho : ∀ j o, j ≠ k → Q j o → Q' j o) :
    GoodZ Q' (((w.setCell ⟨b, k * 3, none⟩ (.float .f64 z.1)).setCell ⟨b, k * 3 + 1, none⟩ (.int .u8 z.2.1)).setCell ⟨b, k * 3 + 2, none⟩ (.int .i64 z.2.2)) b n := by
  refine ⟨by simpa using h.1, fun j hj => ?_⟩
  obtain ⟨o, q, c0, c1, c2, f0, f1, f2⟩ := h.2 j hj
  by_cases e : j = k
  · subst e
    refine ⟨z, hq, ?_, ?_, ?_, by simpa using f0, by simpa using f1, by simpa using f2⟩
    · rw [World.cell?_setCell_other _ _ _ _ (by simp), World.cell?_setCell_other _ _ _ _ (by simp)]
      exact World.cell?_setCell_same _ _ _ c0
    · rw [World.cell?_setCell_other _ _ _ _ (by simp)]
      exact World.cell?_setCell_same _ _ _ (by rw [World.cell?_setCell_other _ _ _ _ (by simp)]; exact c1)
    · exact World.cell?_setCell_same _ _ _ (by rw [World.cell?_setCell_other _ _ _ _ (by simp), World.cell?_setCell_other _ _ _ _ (by simp)]; exact c2)
  · refine ⟨o, ho j o e q, ?_, ?_, ?_, by simpa using f0, by simpa using f1, by simpa using f2⟩
    · rw [World.cell?_setCell_other _ _ _ _ (by intro q; injection q; omega), World.cell?_setCell_other _ _ _ _ (by intro q; injection q; omega), World.cell?_setCell_other _ _ _ _ (by intro q; injection q; omega)]; exact c0
    · rw [World.cell?_setCell_other _ _ _ _ (by intro q; injection q; omega), World.cell?_setCell_other _ _ _ _ (by intro q; injection q; omega), World.cell?_setCell_other _ _ _ _ (by intro q; injection q; omega)]; exact c1
    · rw [World.cell?_setCell_other _ _ _ _ (by intro q; injection q; omega), World.cell?_setCell_other _ _ _ _ (by intro q; injection q; omega), World.cell?_setCell_other _ _ _ _ (by intro q; injection q; omega)]; exact c2

theorem GoodZ.drew {Q : Nat → Nat × Int × Int → Prop} {w : World} {b n : Nat} (h : GoodZ Q w b n) : GoodZ Q w.drew b n := h

theorem GoodZ.rowZ {Q : Nat → Nat × Int × Int → Prop} {w : World} {b n : Nat} (h : GoodZ Q w b n) : ∃ f : Nat → Nat × Int × Int, (∀ j, j < n → Q j (f j)) ∧ RowZ w (some ⟨b, 0, none⟩) n f := by
  obtain ⟨zs, hz⟩ := Go.Deep.choose_lt (fun j hj => h.2 j hj)
  refine ⟨zs, fun j hj => (hz j hj).1, .inr ⟨b, 0, rfl, h.1, fun j hj => ?_⟩⟩
  obtain ⟨_, c0, c1, c2, _⟩ := hz j hj
  simpa using ⟨c0, c1, c2⟩

theorem RowZ.later {w w' : World} {a : Option Addr} {n : Nat} {f : Nat → Nat × Int × Int} (h : RowZ w a n f) (hb : Below w.heap.size w w') : RowZ w' a n f := by
  rcases h with h | ⟨b, off, rfl, hlt, hc⟩
  · exact .inl h
  · exact .inr ⟨b, off, rfl, Nat.lt_of_lt_of_le hlt hb.size, fun j hj => ⟨(hb.cell (p := ⟨b, off + j * 3, none⟩) hlt).trans (hc j hj).1, (hb.cell (p := ⟨b, off + j * 3 + 1, none⟩) hlt).trans (hc j hj).2.1, (hb.cell (p := ⟨b, off + j * 3 + 2, none⟩) hlt).trans (hc j hj).2.2⟩⟩

theorem isDrop_delOf (k m : Int) : isDrop (delOf k m) = (k == 1) := by
  unfold delOf
  by_cases h0 : k = 0
  · subst h0; rfl
  · by_cases h1 : k = 1
    · subst h1; rfl
    · simp [h0, h1, isDrop]

theorem anyDrop_out (f : Nat → Nat × Int × Int) (n : Nat) : anyDrop (fun j => outOf (f j)) n = anyOne f n := by
  unfold anyDrop anyOne
  congr 1
  funext j
  exact isDrop_delOf _ _

theorem anyOne_congr {f g : Nat → Nat × Int × Int} {n : Nat} (h : ∀ j, j < n → ((f j).2.1 == 1) = ((g j).2.1 == 1)) : anyOne f n = anyOne g n := by
  induction n with
  | zero => rfl
  | succ n ih => rw [anyOne_succ, anyOne_succ, ih (fun j hj => h j (by omega)), h n (by omega)]

end Go.Proofs.Qxb6605802a
