/-
  zzBuild by its contract.
-/
import Derived.Test.Qxb6605802aRow
import Derived.Deep.Light
namespace Go.Proofs.Qxb6605802a
open Go.RowKit
set_option linter.unusedVariables false
set_option linter.unusedSimpArgs false
attribute [local go_sem] run_store_float run_store_encD

/-- What zzBuild makes of a description. -/
def outOf (z : Nat × Int × Int) : Nat × Option (Option Int) := (z.1, delOf z.2.1 z.2.2)

theorem Good.rowG {w : World} {b n : Nat} {g : Nat → Nat × Option (Option Int)} (h : Good (fun j o => j < n → o = g j) w b n) : RowO w (some ⟨b, 0, none⟩) n g :=
  .inr ⟨b, rfl, h.1, fun j hj => by
    obtain ⟨o, q, c0, c1, _⟩ := h.2 j hj
    rw [q hj] at c0 c1
    exact ⟨c0, c1⟩⟩

set_option maxHeartbeats 1000000 in
theorem build7 (a : Option Addr) (n c : Nat) (f : Nat → Nat × Int × Int) (w : World) (hn : n ≤ 32768) (h : RowZ w a n f) (hnil : a = none → n = 0) :
    Calls Try.prog 7 #[.slice a n c] w fun e w' => (∃ a' c', e = .returned (.slice a' n c') ∧ RowO w' a' n (fun j => outOf (f j))) ∧ Below w.heap.size w w' := by
  have H := hid h
  clear h
  have hq := fun (w : World) (a : Option Addr) (n c : Nat) => Lib.run_eql_slice_nil (P := Try.prog) w 23 34 a n c 0 0 Try.underlying23
  cases a with
  | none =>
    obtain rfl := hnil rfl
    clear hnil
    go_enter Try.func7, Try.ntmps7
    go_wp2
    go_ret
    exact ⟨⟨none, 0, rfl, .inl rfl⟩, Below.refl _ _⟩
  | some x =>
    clear hnil
    have hm1 := make28 n (by omega)
    go_enter Try.func7, Try.ntmps7
    go_wp2
    go_loopw [4] (fun i wr => ∃ k : Nat, k ≤ n ∧ i = .int .i64 k ∧ Hid (Below w.heap.size w wr) ∧ Hid (Good (fun j o => j < k → o = outOf (f j)) wr w.heap.size n)) (fun i _ => n - (intOf i).toNat)
    case atStart =>
      exact ⟨0, Nat.zero_le _, rfl, (Below.refl _ _).alloc (Nat.le_refl _) _, hid (Good.made (Q := fun j o => j < 0 → o = outOf (f j)) w n (fun j h => absurd h (Nat.not_lt_zero _)))⟩
    case round =>
      obtain ⟨k, hk, rfl, HB, HG⟩ := hrel
      clear hm1 hq
      by_cases hlt : k < n
      · rcases H.out with h0 | ⟨b, off, hx, hb, hc⟩
        · omega
        simp only [Option.some.injEq] at hx
        subst hx
        have c0 : wr.cell? ⟨b, off + k * 3, none⟩ = some (.float .f64 (f k).1) := (HB.out.cell (p := ⟨b, off + k * 3, none⟩) hb).trans (hc k hlt).1
        have c1 : wr.cell? ⟨b, off + k * 3 + 1, none⟩ = some (.int .u8 (f k).2.1) := (HB.out.cell (p := ⟨b, off + k * 3 + 1, none⟩) hb).trans (hc k hlt).2.1
        have c2 : wr.cell? ⟨b, off + k * 3 + 2, none⟩ = some (.int .i64 (f k).2.2) := (HB.out.cell (p := ⟨b, off + k * 3 + 2, none⟩) hb).trans (hc k hlt).2.2
        clear hc
        go_wp2_with fail
        refine (one11 _ _ _ _).mono ?_
        rintro e w1 ⟨rfl, hb1⟩
        have HG1 := hid (HG.out.later hb1)
        have HB1 := hid (HB.out.trans (hb1.mono HB.out.size))
        obtain ⟨o, hQ, g0, g1, g2, g3⟩ := HG1.out.2 k hlt
        clear hQ hb1 c0 c1 c2
        go_wp2_with fail
        go_roundw
        case rel =>
          go_light
          refine ⟨k + 1, by omega, by go_num, hid ((HB1.out.setCell (by simp) _).setCell (by simp) _), hid ?_⟩
          have h3 := HG1.out.turn (Q' := fun j o => j < k + 1 → o = outOf (f j)) hlt (f k).1 (delOf (f k).2.1 (f k).2.2) (fun _ => rfl) (fun j o hj q hlt' => q (by omega))
          exact h3
        case measure => simp [intOf]; omega
      · have : k = n := by omega
        subst this
        go_wp2_with fail
        go_ret
        exact ⟨⟨_, _, rfl, HG.out.rowG⟩, HB.out⟩

end Go.Proofs.Qxb6605802a
