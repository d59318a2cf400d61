/-
  zzExpect and zzBuild by their contracts.
-/
import Derived.Test.Qxb6605802aRow
import Derived.Deep.Light
namespace Go.Proofs.Qxb6605802a
open Go.RowKit
set_option linter.unusedVariables false
set_option linter.unusedSimpArgs false

/-- '+' on two float64: the sum's bits (a NaN's: as the tape says), and the world behind it. -/
def addBits (w : World) (x y : Nat) : Nat :=
  match FloatKind.f64.format.add x y with
  | some r => r
  | none => (Question.nanBits .f64 x y).cut (w.tape w.drawn (.nanBits .f64 x y))
def addWorld (w : World) (x y : Nat) : World :=
  match FloatKind.f64.format.add x y with
  | some _ => w
  | none => w.drew
theorem run_addf (P : Program) (t : TypeId) (x y : Nat) (w : World) : (binOp .add t (.float .f64 x) (.float .f64 y)).run P w = .ok (.float .f64 (addBits w x y)) (addWorld w x y) := by
  unfold addBits addWorld
  cases h : FloatKind.f64.format.add x y with
  | some r => simp [binOp, Op.floatArith, h]
  | none => simp [binOp, Op.floatArith, h, Question.forced]
theorem below_addWorld {B : Nat} {a w : World} (h : Below B a w) (x y : Nat) : Below B a (addWorld w x y) := by
  unfold addWorld
  split
  · exact h
  · exact h.drew
attribute [local go_sem] run_store_float run_store_encD run_addf

/-- Is one of the first n descriptions a Drop? -/
def anyOne (f : Nat → Nat × Int × Int) (n : Nat) : Bool := (List.range n).any fun j => (f j).2.1 == 1

theorem anyOne_succ (f : Nat → Nat × Int × Int) (k : Nat) : anyOne f (k + 1) = (anyOne f k || (f k).2.1 == 1) := by
  simp [anyOne, List.range_succ]

set_option maxHeartbeats 1000000 in
theorem expect6 (L : Nat) (a : Option Addr) (n c : Nat) (f : Nat → Nat × Int × Int) (w : World) (hn : n ≤ 32768) (h : RowZ w a n f) :
    Calls Try.prog 6 #[.float .f64 L, .slice a n c] w fun e w' => (∃ ok t, e = .returned (.tuple #[.bool ok, .float .f64 t, .bool (pos0 L || anyOne f n)])) ∧ Below w.heap.size w w' := by
  have H := hid h
  clear h
  cases hg1 : (FloatKind.f64.format.order L 0 == some .gt || FloatKind.f64.format.order L 0 == some .eq)
  all_goals
    go_enter Try.func6, Try.ntmps6
    go_wp2
    go_loopw [7, 8, 9, 10, 11] (fun s7 s8 s9 s10 _ wr => ∃ (k : Nat) (ok : Bool) (t : Nat), k ≤ n ∧ s10 = .int .i64 k ∧ s7 = .bool ok ∧ s8 = .bool (pos0 L || anyOne f k) ∧ s9 = .float .f64 t ∧ Hid (Below w.heap.size w wr)) (fun _ _ _ i _ _ => n - (intOf i).toNat)
    case atStart => exact ⟨0, _, _, Nat.zero_le _, rfl, rfl, by simp [anyOne, pos0], rfl, Below.refl _ _⟩
    case round =>
      obtain ⟨k, ok, t, hk, rfl, rfl, rfl, rfl, HB⟩ := hrel
      by_cases hlt : k < n
      · rcases H.out with h0 | ⟨b, off, rfl, hb, hc⟩
        · omega
        have c0 : wr.cell? ⟨b, off + k * 3, none⟩ = some (.float .f64 (f k).1) := (HB.out.cell (p := ⟨b, off + k * 3, none⟩) hb).trans (hc k hlt).1
        have c1 : wr.cell? ⟨b, off + k * 3 + 1, none⟩ = some (.int .u8 (f k).2.1) := (HB.out.cell (p := ⟨b, off + k * 3 + 1, none⟩) hb).trans (hc k hlt).2.1
        have c2 : wr.cell? ⟨b, off + k * 3 + 2, none⟩ = some (.int .i64 (f k).2.2) := (HB.out.cell (p := ⟨b, off + k * 3 + 2, none⟩) hb).trans (hc k hlt).2.2
        have HS : Hid ((pos0 L || anyOne f (k + 1)) = ((pos0 L || anyOne f k) || (f k).2.1 == 1)) := by
          show (pos0 L || anyOne f (k + 1)) = ((pos0 L || anyOne f k) || (f k).2.1 == 1)
          rw [anyOne_succ f k, Bool.or_assoc]
        clear hc
        generalize f k = z at c0 c1 c2 HS
        obtain ⟨x, kd, mn⟩ := z
        generalize (pos0 L || anyOne f k) = ps at HS ⊢
        go_wp2
        all_goals
          go_roundw
          case rel =>
            go_light
            refine ⟨k + 1, _, _, by omega, by go_num, rfl, ?_, rfl, below_addWorld (HB.out.alloc HB.out.size _) _ _⟩
            rw [HS.out]
            simp_all
          case measure => simp [intOf]; omega
      · have : k = n := by omega
        subst this
        go_wp2
        all_goals
          go_ret3
          exact ⟨⟨_, _, rfl⟩, HB.out⟩

end Go.Proofs.Qxb6605802a
