/-
  slices.IndexFunc, slices.ContainsFunc at Outcome with Lossy's closure; Lossy itself.
-/
import Derived.Test.Qxb6605802aSmall
namespace Go.Proofs.Qxb6605802a
open Go.RowKit
attribute [local go_sem] run_store_float run_store_encD

theorem hid {p : Prop} (h : p) : Hid p := h

/-- The slice at a, of n outcomes, holds zs. -/
def RowO (w : World) (a : Option Addr) (n : Nat) (zs : Nat → Nat × Option (Option Int)) : Prop :=
  n = 0 ∨ ∃ b, a = some ⟨b, 0, none⟩ ∧ b < w.heap.size ∧ ∀ j, j < n → w.cell? ⟨b, j * 2, none⟩ = some (.float .f64 (zs j).1) ∧ w.cell? ⟨b, j * 2 + 1, none⟩ = some (encD (zs j).2)

def anyDrop (zs : Nat → Nat × Option (Option Int)) (n : Nat) : Bool := (List.range n).any fun j => isDrop (zs j).2

theorem anyDrop_false {zs : Nat → Nat × Option (Option Int)} {n : Nat} (h : ∀ j, j < n → isDrop (zs j).2 = false) : anyDrop zs n = false := by
  unfold anyDrop
  rw [List.any_eq_false]
  intro x hx
  simp [h x (by simpa using hx)]

theorem anyDrop_true {zs : Nat → Nat × Option (Option Int)} {n k : Nat} (hk : k < n) (h : isDrop (zs k).2 = true) : anyDrop zs n = true := by
  unfold anyDrop
  rw [List.any_eq_true]
  exact ⟨k, by simpa using hk, h⟩

set_option maxHeartbeats 400000 in
theorem index15 (a : Option Addr) (n c : Nat) (zs : Nat → Nat × Option (Option Int)) (w : World) (hn : n ≤ 1048576) (h : RowO w a n zs) :
    Calls Try.prog 15 #[.slice a n c, .func (.func 14) #[] #[]] w fun e w' => (∃ r : Int, e = .returned (.int .i64 r) ∧ decide (0 ≤ r) = anyDrop zs n) ∧ Below w.heap.size w w' := by
  rcases h with rfl | ⟨b, rfl, hb, hc⟩
  · go_enter Try.func15, Try.ntmps15
    go_wp2
    refine wp_loop_rounds 1 ?_
    rw [rounds_succ]
    go_wp2
    go_ret
    exact ⟨⟨_, rfl, rfl⟩, Below.refl _ _⟩
  · have HC := hid hc
    clear hc
    go_enter Try.func15, Try.ntmps15
    go_wp2
    go_loopw [5, 8] (fun _ s8 wr => ∃ k : Nat, k ≤ n ∧ s8 = .int .i64 k ∧ Hid (Below w.heap.size w wr) ∧ Hid (∀ j, j < k → isDrop (zs j).2 = false)) (fun _ i _ => n - (intOf i).toNat)
    case atStart => exact ⟨0, Nat.zero_le _, rfl, Below.refl _ _, fun j hj => absurd hj (Nat.not_lt_zero _)⟩
    case round =>
      obtain ⟨k, hk, rfl, HB, HD⟩ := hrel
      by_cases hlt : k < n
      · have c0 : wr.cell? ⟨b, k * 2, none⟩ = some (.float .f64 (zs k).1) := (HB.out.cell (p := ⟨b, k * 2, none⟩) hb).trans (HC.out k hlt).1
        have c1 : wr.cell? ⟨b, k * 2 + 1, none⟩ = some (encD (zs k).2) := (HB.out.cell (p := ⟨b, k * 2 + 1, none⟩) hb).trans (HC.out k hlt).2
        have hcall := clo14 (zs k).1 (zs k).2 wr
        cases hq : isDrop (zs k).2 with
        | true =>
          rw [hq] at hcall
          have HT : Hid (isDrop (zs k).2 = true) := hq
          clear hq
          go_wp2_with (go_at_call 14; refine hcall.mono ?_; rintro e w1 ⟨rfl, hb1⟩)
          go_ret
          exact ⟨⟨_, rfl, by rw [anyDrop_true hlt HT.out]; simp⟩, HB.out.trans (hb1.mono HB.out.size)⟩
        | false =>
          rw [hq] at hcall
          have HT : Hid (isDrop (zs k).2 = false) := hq
          clear hq
          go_wp2_with (go_at_call 14; refine hcall.mono ?_; rintro e w1 ⟨rfl, hb1⟩)
          go_roundw
          case rel =>
            refine ⟨k + 1, by omega, by go_num, HB.out.trans (hb1.mono HB.out.size), fun j hj => ?_⟩
            by_cases e : j = k
            · subst e; exact HT.out
            · exact HD.out j (by omega)
          case measure => simp [intOf]; omega
      · have : k = n := by omega
        subst this
        go_wp2
        go_ret
        exact ⟨⟨_, rfl, by rw [anyDrop_false HD.out]; rfl⟩, HB.out⟩

set_option maxHeartbeats 400000 in
theorem contains13 (a : Option Addr) (n c : Nat) (zs : Nat → Nat × Option (Option Int)) (w : World) (hn : n ≤ 1048576) (h : RowO w a n zs) :
    Calls Try.prog 13 #[.slice a n c, .func (.func 14) #[] #[]] w fun e w' => e = .returned (.bool (anyDrop zs n)) ∧ Below w.heap.size w w' := by
  have H := hid h
  clear h
  go_enter Try.func13, Try.ntmps13
  go_wp2_with (go_at_call 15; refine (index15 a n c zs _ hn H.out).mono ?_; rintro e w1 ⟨⟨r, rfl, hr⟩, hb⟩; have HR := hid hr; clear hr)
  go_ret
  exact ⟨by rw [← HR.out]; rfl, hb⟩

/-- 'x > 0' of a float64. -/
def pos0 (x : Nat) : Bool := FloatKind.f64.format.order x 0 == some .gt

theorem RowO.later {w w' : World} {a : Option Addr} {n : Nat} {zs : Nat → Nat × Option (Option Int)} (h : RowO w a n zs) (hb : Below w.heap.size w w') : RowO w' a n zs := by
  rcases h with h | ⟨b, rfl, hlt, hc⟩
  · exact .inl h
  · exact .inr ⟨b, rfl, Nat.lt_of_lt_of_le hlt hb.size, fun j hj => ⟨(hb.cell (p := ⟨b, j * 2, none⟩) hlt).trans (hc j hj).1, (hb.cell (p := ⟨b, j * 2 + 1, none⟩) hlt).trans (hc j hj).2⟩⟩

set_option maxHeartbeats 400000 in
theorem lossy8 (L : Nat) (a : Option Addr) (n c : Nat) (s : Int) (zs : Nat → Nat × Option (Option Int)) (w : World) (hn : n ≤ 1048576) (h : RowO w a n zs) :
    Calls Try.prog 8 #[.agg #[.float .f64 L, .slice a n c, .int .u64 s]] w fun e w' => e = .returned (.bool (pos0 L || anyDrop zs n)) ∧ Below w.heap.size w w' := by
  have H := hid h
  clear h
  cases hp : (FloatKind.f64.format.order L 0 == some .gt) with
  | true =>
    have HP : Hid (pos0 L = true) := hp
    go_enter Try.func8, Try.ntmps8
    go_wp2
    go_ret
    exact ⟨by rw [HP.out]; rfl, (Below.refl _ _).alloc (Nat.le_refl _) _⟩
  | false =>
    have HP : Hid (pos0 L = false) := hp
    go_enter Try.func8, Try.ntmps8
    go_wp2_with (go_at_call 13; refine (contains13 a n c zs _ hn (H.out.later ((Below.refl _ _).alloc (Nat.le_refl _) _))).mono ?_; rintro e w1 ⟨rfl, hb⟩)
    go_ret
    exact ⟨by rw [HP.out]; rfl, ((Below.refl _ _).alloc (Nat.le_refl _) _).trans (hb.mono (by simp))⟩

end Go.Proofs.Qxb6605802a
