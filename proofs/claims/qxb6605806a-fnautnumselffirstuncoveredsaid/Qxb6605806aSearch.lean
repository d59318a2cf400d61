/-
  Compare; the search's closure; sort.Search.
-/
import Derived.Test.Qxb6605806aBase
namespace Go.Proofs.Qxb6605806a
open Go.RowKit
set_option linter.unusedVariables false
set_option linter.unusedSimpArgs false

def cmpI (x y : Int) : Int := if x < y then -1 else if y < x then 1 else 0

set_option maxHeartbeats 400000 in
theorem nan48 (x : Int) (w : World) : Calls Try.prog 48 #[.int .u32 x] w fun e w' => e = .returned (.bool false) ∧ w = w' := by
  go_enter Try.func48, Try.ntmps48
  go_wp2
  go_ret
  exact ⟨by simp, rfl⟩

set_option maxHeartbeats 400000 in
theorem cmp47 (x y : Int) (w : World) : Calls Try.prog 47 #[.int .u32 x, .int .u32 y] w fun e w' => e = .returned (.int .i64 (cmpI x y)) ∧ w = w' := by
  unfold cmpI
  by_cases h1 : x < y
  · rw [if_pos h1]
    go_enter Try.func47, Try.ntmps47
    go_wp2_with (go_at_call 48; refine (nan48 _ _).mono ?_; rintro e w' ⟨rfl, rfl⟩)
    all_goals
      go_ret
      exact ⟨rfl, rfl⟩
  · rw [if_neg h1]
    by_cases h2 : y < x
    · rw [if_pos h2]
      go_enter Try.func47, Try.ntmps47
      go_wp2_with (go_at_call 48; refine (nan48 _ _).mono ?_; rintro e w' ⟨rfl, rfl⟩)
      all_goals
        go_ret
        exact ⟨rfl, rfl⟩
    · rw [if_neg h2]
      go_enter Try.func47, Try.ntmps47
      go_wp2_with (go_at_call 48; refine (nan48 _ _).mono ?_; rintro e w' ⟨rfl, rfl⟩)
      all_goals
        go_ret
        exact ⟨rfl, rfl⟩

set_option maxHeartbeats 400000 in
theorem cmp45 (x y : Int) (w : World) : Calls Try.prog 45 #[.int .u32 x, .int .u32 y] w fun e w' => e = .returned (.int .i64 (cmpI x y)) ∧ w = w' := by
  go_enter Try.func45, Try.ntmps45
  go_wp2_with (go_at_call 47; refine (cmp47 _ _ _).mono ?_; rintro e w' ⟨rfl, rfl⟩)
  go_ret
  exact ⟨rfl, rfl⟩

theorem method_cmp (x : Int) (w : World) : (method 179 39 (.int .u32 x) "Compare").run Try.prog w = .ok (45, .int .u32 x) w := by kernel_rfl

/-- The spans in block S, as the index reads them. -/
def SpansAt (w : World) (S n : Nat) (F L Pa : Nat → Int) : Prop :=
  S < w.heap.size ∧ ∀ k, k < n → w.cell? ⟨S, k * 7, none⟩ = some (.int .u32 (F k)) ∧ w.cell? ⟨S, k * 7 + 1, none⟩ = some (.int .u32 (L k)) ∧ w.cell? ⟨S, k * 7 + 6, none⟩ = some (.int .i64 (Pa k))

set_option maxHeartbeats 1000000 in
theorem clo29 (S n c j k ba bn bj : Nat) (F L Pa : Nat → Int) (w : World) (hn : n ≤ 4096) (hj : j < n) (hk : j + 1 + k < n)
    (hs : SpansAt w S n F L Pa) (ha : w.cell? ⟨ba, 0, none⟩ = some (.slice (some ⟨S, (j + 1) * 7, none⟩) (n - (j + 1)) c)) (hb : w.cell? ⟨bn, 0, none⟩ = some (.slice (some ⟨S, 0, none⟩) n n)) (hc : w.cell? ⟨bj, 0, none⟩ = some (.int .i64 j)) :
    Calls Try.prog 29 #[.int .i64 k, .pointer (some ⟨ba, 0, none⟩), .pointer (some ⟨bn, 0, none⟩), .pointer (some ⟨bj, 0, none⟩)] w fun e w' => e = .returned (.bool (decide (L j < F (j + 1 + k)))) ∧ ∃ q, w' = w.drewN q := by
  have s0 := (hs.2 (j + 1 + k) hk).1
  have s1 := (hs.2 j hj).2.1
  have e0 : (j + 1) * 7 + k * 7 = (j + 1 + k) * 7 := by omega
  rw [← e0] at s0
  have k0 : (0 : Int) ≤ (k : Int) := by omega
  have k1 : (k : Int) < ((n - (j + 1) : Nat) : Int) := by omega
  have j0 : (0 : Int) ≤ (j : Int) := by omega
  have j1 : (j : Int) < (n : Int) := by omega
  clear hs e0
  have hm := method_cmp
  have hcmp : decide (0 < cmpI (F (j + 1 + k)) (L j)) = decide (L j < F (j + 1 + k)) := by
    unfold cmpI
    by_cases h1 : F (j + 1 + k) < L j
    · rw [if_pos h1]; simp; omega
    · rw [if_neg h1]
      by_cases h2 : L j < F (j + 1 + k)
      · rw [if_pos h2]; simp [h2]
      · rw [if_neg h2]; simp [h2]
  have HCMP := hid hcmp
  clear hcmp
  go_enter Try.func29, Try.ntmps29
  go_wp2
  go_quiet ((go_at_call 45; exact Calls.quiet_of_same ((cmp45 _ _ _).mono (fun e w' ⟨h1, h2⟩ => ⟨h1, h2.symm⟩))))
  go_wp2
  go_ret
  exact ⟨by rw [← HCMP.out]; rfl, _, rfl⟩

theorem SpansAt.later {w w' : World} {S n : Nat} {F L Pa : Nat → Int} (h : SpansAt w S n F L Pa) (hb : w'.heap[S]? = w.heap[S]?) : SpansAt w' S n F L Pa := by
  refine ⟨?_, fun k hk => ?_⟩
  · have h1 := h.1
    apply Classical.byContradiction
    intro hn
    rw [Array.getElem?_eq_none (by omega), Array.getElem?_eq_getElem h1] at hb
    cases hb
  · obtain ⟨a, b, c⟩ := h.2 k hk
    refine ⟨?_, ?_, ?_⟩
    · rw [World.cell?_of_block (w := w) (a := ⟨S, k * 7, none⟩) hb]; exact a
    · rw [World.cell?_of_block (w := w) (a := ⟨S, k * 7 + 1, none⟩) hb]; exact b
    · rw [World.cell?_of_block (w := w) (a := ⟨S, k * 7 + 6, none⟩) hb]; exact c

set_option maxHeartbeats 1000000 in
theorem search28 (S n c j ba bn bj : Nat) (F L Pa : Nat → Int) (w : World) (hn : n ≤ 4096) (hj : j < n) (hmono : ∀ a b, a ≤ b → b < n → F a ≤ F b)
    (hs : SpansAt w S n F L Pa) (ha : w.cell? ⟨ba, 0, none⟩ = some (.slice (some ⟨S, (j + 1) * 7, none⟩) (n - (j + 1)) c)) (hb : w.cell? ⟨bn, 0, none⟩ = some (.slice (some ⟨S, 0, none⟩) n n)) (hc : w.cell? ⟨bj, 0, none⟩ = some (.int .i64 j)) :
    Calls Try.prog 28 #[.int .i64 ((n - (j + 1) : Nat) : Int), .func (.func 29) #[] #[.pointer (some ⟨ba, 0, none⟩), .pointer (some ⟨bn, 0, none⟩), .pointer (some ⟨bj, 0, none⟩)]] w
      fun e w' => (∃ r : Nat, e = .returned (.int .i64 r) ∧ j + 1 + r ≤ n ∧ (∀ d, j < d → d < j + 1 + r → F d ≤ L j) ∧ (j + 1 + r < n → L j < F (j + 1 + r))) ∧ ∃ q, w' = w.drewN q := by
  have HF := hid (fun (q k : Nat) (hk : j + 1 + k < n) => clo29 S n c j k ba bn bj F L Pa (w.drewN q) hn hj hk (hs.later rfl) ha hb hc)
  have HM := hid hmono
  clear hs ha hb hc hmono
  generalize hN : n - (j + 1) = N
  have hN' : j + 1 + N = n := by omega
  clear hN
  have HN := hid hN'
  have hN2 : N ≤ 4096 := by omega
  clear hN'
  go_enter Try.func28, Try.ntmps28
  go_wp2
  go_loopw [5, 6, 7] (fun s5 s6 _ wr => ∃ (lo hi q : Nat), s5 = .int .i64 lo ∧ s6 = .int .i64 hi ∧ lo ≤ hi ∧ hi ≤ N ∧ wr = w.drewN q ∧ Hid (∀ d, j < d → d < j + 1 + lo → F d ≤ L j) ∧ Hid (j + 1 + hi < n → L j < F (j + 1 + hi))) (fun a b _ _ => (intOf b - intOf a).toNat)
  case atStart => exact ⟨0, N, 0, rfl, rfl, Nat.zero_le _, Nat.le_refl _, rfl, hid (fun d h1 h2 => by omega), hid (fun h => by have := HN.out; omega)⟩
  case round =>
    obtain ⟨lo, hi, q, rfl, rfl, hlh, hin, rfl, H1, H2⟩ := hrel
    by_cases hlt : lo < hi
    · have hcall := HF.out q ((lo + hi) / 2) (by have := HN.out; omega)
      rw [show (((lo + hi) / 2 : Nat) : Int) = ((lo : Int) + (hi : Int)) / 2 by omega] at hcall
      by_cases hp : L j < F (j + 1 + (lo + hi) / 2)
      · rw [decide_eq_true hp] at hcall
        have HP := hid hp
        clear hp
        go_wp2_with (go_at_call 29; refine hcall.mono ?_; rintro e w' ⟨rfl, nq, rfl⟩)
        go_roundw
        case rel => exact ⟨lo, (lo + hi) / 2, q + nq, rfl, by rw [show ((lo : Int) + (hi : Int)) / 2 = (((lo + hi) / 2 : Nat) : Int) by omega], by omega, by omega, by first | rfl | rw [World.drewN_drewN], H1, hid (fun _ => HP.out)⟩
        case measure => simp [intOf]; omega
      · rw [decide_eq_false hp] at hcall
        have HP := hid hp
        clear hp
        go_wp2_with (go_at_call 29; refine hcall.mono ?_; rintro e w' ⟨rfl, nq, rfl⟩)
        go_roundw
        case rel =>
          refine ⟨(lo + hi) / 2 + 1, hi, q + nq, by rw [show ((lo : Int) + (hi : Int)) / 2 + 1 = (((lo + hi) / 2 + 1 : Nat) : Int) by omega], rfl, by omega, hin, by first | rfl | rw [World.drewN_drewN], hid (fun d h1 h2 => ?_), H2⟩
          have h3 := HM.out d (j + 1 + (lo + hi) / 2) (by omega) (by have := HN.out; omega)
          have h4 := HP.out
          omega
        case measure => simp [intOf]; omega
    · obtain rfl : hi = lo := by omega
      go_wp2
      go_ret
      exact ⟨⟨hi, rfl, by have := HN.out; omega, H1.out, H2.out⟩, q, rfl⟩

set_option maxHeartbeats 1000000 in
theorem search28_zero (v : Value) (w : World) : Calls Try.prog 28 #[.int .i64 0, v] w fun e w' => e = .returned (.int .i64 0) ∧ w = w' := by
  go_enter Try.func28, Try.ntmps28
  go_wp2
  refine wp_loop_rounds 1 ?_
  rw [rounds_succ]
  go_wp2
  go_ret
  exact ⟨rfl, rfl⟩

end Go.Proofs.Qxb6605806a
