/-
  ROWS OF INTEGERS; the bounds; the two clones; zzInsideOf.
-/
import Derived.Test.Qxb6605806aRows
import Derived.Test.Qxb6605806aPlain
import Derived.WalkKit
import Derived.WalkSpells
import Derived.WalkLawsBesides
import Derived.Deep.Light
import Derived.Deep.OwnRows
import Derived.Deep.QuietTactic
import Derived.BigQuiet
namespace Go.Proofs.Qxb6605806a
open Go.RowKit
set_option linter.unusedVariables false
set_option linter.unusedSimpArgs false

theorem hid {p : Prop} (h : p) : Hid p := h

theorem bcell {W w1 : World} (hb : Below W.heap.size W w1) : (∀ b o, b < W.heap.size → w1.cell? ⟨b, o, none⟩ = W.cell? ⟨b, o, none⟩) ∧ (∀ b o, b < W.heap.size → w1.frozen? ⟨b, o, none⟩ = W.frozen? ⟨b, o, none⟩) :=
  ⟨fun b o h => hb.cell (p := ⟨b, o, none⟩) h, fun b o h => hb.frozen (p := ⟨b, o, none⟩) h⟩

/-- A slice of n integers that may be read: its numbers are f 0, f 1, .. -/
def RowI (k : IntKind) (w : World) (a : Option Addr) (n : Nat) (f : Nat → Int) : Prop :=
  n = 0 ∨ ∃ b off, a = some ⟨b, off, none⟩ ∧ b < w.heap.size ∧ ∀ j, j < n → w.cell? ⟨b, off + j, none⟩ = some (.int k (f j))

theorem RowI.later {k : IntKind} {w w' : World} {a : Option Addr} {n : Nat} {f : Nat → Int} (h : RowI k w a n f) (hb : Below w.heap.size w w') : RowI k w' a n f := by
  rcases h with h | ⟨b, off, rfl, hlt, hc⟩
  · exact .inl h
  · exact .inr ⟨b, off, rfl, Nat.lt_of_lt_of_le hlt hb.size, fun j hj => (hb.cell (p := ⟨b, off + j, none⟩) hlt).trans (hc j hj)⟩

theorem RowI.at {k : IntKind} {w : World} {a : Option Addr} {n : Nat} {f : Nat → Int} (h : RowI k w a n f) (hn : 0 < n) : ∃ b off, a = some ⟨b, off, none⟩ ∧ b < w.heap.size ∧ ∀ j, j < n → w.cell? ⟨b, off + j, none⟩ = some (.int k (f j)) := by
  rcases h with h | h
  · omega
  · exact h

set_option maxHeartbeats 1000000 in
theorem bytes19 (a0 a1 a2 : Option Addr) (n0 n1 n2 c0 c1 c2 : Nat) (i : Value) (w : World) (h0 : n0 ≤ 9223372036854775807) (h1 : n1 ≤ 9223372036854775807) (h2 : n2 ≤ 9223372036854775807) :
    Calls Try.prog 19 #[.slice a0 n0 c0, .slice a1 n1 c1, .slice a2 n2 c2, i] w fun e w' => (∃ r, e = .returned (.bool r) ∧ (n0 ≤ 4096 → n1 ≤ 4096 → n2 ≤ 4096 → r = true)) ∧ w = w' := by
  go_enter Try.func19, Try.ntmps19
  go_wp2
  all_goals
    go_ret
    exact ⟨⟨_, rfl, fun _ _ _ => by first | rfl | (exfalso; omega)⟩, rfl⟩

set_option maxHeartbeats 1000000 in
theorem bytes13 (a0 a1 a2 : Option Addr) (n0 n1 n2 c0 c1 c2 : Nat) (i : Value) (w : World) (h0 : n0 ≤ 9223372036854775807) (h1 : n1 ≤ 9223372036854775807) (h2 : n2 ≤ 9223372036854775807) :
    Calls Try.prog 13 #[.slice a0 n0 c0, .slice a1 n1 c1, .slice a2 n2 c2, i] w fun e w' => (∃ r, e = .returned (.bool r) ∧ (n0 ≤ 4096 → n1 ≤ 4096 → n2 ≤ 4096 → r = true)) ∧ w = w' := by
  go_enter Try.func13, Try.ntmps13
  go_wp2
  all_goals
    go_ret
    exact ⟨⟨_, rfl, fun _ _ _ => by first | rfl | (exfalso; omega)⟩, rfl⟩

/-- A row of n integers of the call's own, the first k of which are f's. -/
def GoodI (kd : IntKind) (k : Nat) (f : Nat → Int) (w : World) (b n : Nat) : Prop :=
  b < w.heap.size ∧ ∀ j, j < n → (∃ v, w.cell? ⟨b, j, none⟩ = some v) ∧ w.frozen? ⟨b, j, none⟩ = false ∧ (j < k → w.cell? ⟨b, j, none⟩ = some (.int kd (f j)))

theorem GoodI.made (kd : IntKind) (f : Nat → Int) (w : World) (n : Nat) (z : Value) (t : TypeId) : GoodI kd 0 f (w.alloc (.cells (madeCells #[z] n) t)) w.heap.size n := by
  refine ⟨by simp, fun j hj => ⟨⟨z, ?_⟩, by simp, fun h => absurd h (Nat.not_lt_zero _)⟩⟩
  simp [madeCells, hj, Nat.mod_one]

theorem GoodI.store {kd : IntKind} {k : Nat} {f : Nat → Int} {w : World} {b n : Nat} (h : GoodI kd k f w b n) (hk : k < n) : GoodI kd (k + 1) f (w.setCell ⟨b, k, none⟩ (.int kd (f k))) b n := by
  refine ⟨by simpa using h.1, fun j hj => ?_⟩
  obtain ⟨⟨v, c0⟩, f0, c1⟩ := h.2 j hj
  by_cases e : j = k
  · subst e
    have := World.cell?_setCell_same w ⟨b, j, none⟩ (.int kd (f j)) c0
    exact ⟨⟨_, this⟩, by simpa using f0, fun _ => this⟩
  · have hne : (⟨b, k, none⟩ : Addr) ≠ ⟨b, j, none⟩ := by intro q; injection q; omega
    refine ⟨⟨v, ?_⟩, by simpa using f0, fun hj' => ?_⟩
    · rw [World.cell?_setCell_other _ _ _ _ hne]; exact c0
    · rw [World.cell?_setCell_other _ _ _ _ hne]; exact c1 (by omega)

theorem GoodI.row {kd : IntKind} {f : Nat → Int} {w : World} {b n : Nat} (h : GoodI kd n f w b n) : RowI kd w (some ⟨b, 0, none⟩) n f :=
  .inr ⟨b, 0, rfl, h.1, fun j hj => by rw [Nat.zero_add]; exact (h.2 j hj).2.2 hj⟩

theorem info35 : (Try.prog.info? 35).map (fun i => (i.zero, i.size, i.bytes)) = some (some (.int .u32 0), 1, 4) := by kernel_rfl

set_option maxHeartbeats 1000000 in
theorem clone15 (a : Option Addr) (n c : Nat) (f : Nat → Int) (w : World) (hn : n ≤ 4096) (h : RowI .u32 w a n f) (hnil : a = none → n = 0) :
    Calls Try.prog 15 #[.slice a n c] w fun e w' => (∃ a' c', e = .returned (.slice a' n c') ∧ RowI .u32 w' a' n f) ∧ Below w.heap.size w w' := by
  have H := hid h
  clear h
  have hq := fun (w : World) (a : Option Addr) (n c : Nat) => Lib.run_eql_slice_nil (P := Try.prog) w 29 35 a n c 0 0 Try.underlying29
  cases a with
  | none =>
    obtain rfl := hnil rfl
    clear hnil
    go_enter Try.func15, Try.ntmps15
    go_wp2
    go_ret
    exact ⟨⟨none, 0, rfl, .inl rfl⟩, Below.refl _ _⟩
  | some x =>
    clear hnil
    have hm1 := run_make_row' (P := Try.prog) 29 35 (.int .u32 0) 4 Try.underlying29 info35 rfl .i64 .i64 n (by omega) (by omega)
    go_enter Try.func15, Try.ntmps15
    go_wp2
    go_loopw [4] (fun i wr => ∃ k : Nat, k ≤ n ∧ i = .int .i64 k ∧ Hid (Below w.heap.size w wr) ∧ Hid (GoodI .u32 k f wr w.heap.size n)) (fun i _ => n - (intOf i).toNat)
    case atStart =>
      exact ⟨0, Nat.zero_le _, rfl, (Below.refl _ _).alloc (Nat.le_refl _) _, hid (GoodI.made _ f w n _ _)⟩
    case round =>
      obtain ⟨k, hk, rfl, HB, HG⟩ := hrel
      clear hm1 hq
      by_cases hlt : k < n
      · rcases H.out with h0 | ⟨b, off, hx, hb, hc⟩
        · omega
        simp only [Option.some.injEq] at hx
        subst hx
        have c0 : wr.cell? ⟨b, off + k, none⟩ = some (.int .u32 (f k)) := (HB.out.cell (p := ⟨b, off + k, none⟩) hb).trans (hc k hlt)
        clear hc
        obtain ⟨⟨v, g0⟩, g1, _⟩ := HG.out.2 k hlt
        go_wp2
        go_roundw
        case rel =>
          go_light
          exact ⟨k + 1, by omega, by go_num, hid (HB.out.setCell (by simp) _), hid (HG.out.store hlt)⟩
        case measure => simp [intOf]; omega
      · have : k = n := by omega
        subst this
        go_wp2
        go_ret
        exact ⟨⟨_, _, rfl, HG.out.row⟩, HB.out⟩

theorem info3 : (Try.prog.info? 3).map (fun i => (i.zero, i.size, i.bytes)) = some (some (.int .i64 0), 1, 8) := by kernel_rfl

set_option maxHeartbeats 1000000 in
theorem clone16 (a : Option Addr) (n c : Nat) (f : Nat → Int) (w : World) (hn : n ≤ 4096) (h : RowI .i64 w a n f) (hnil : a = none → n = 0) :
    Calls Try.prog 16 #[.slice a n c] w fun e w' => (∃ a' c', e = .returned (.slice a' n c') ∧ RowI .i64 w' a' n f) ∧ Below w.heap.size w w' := by
  have H := hid h
  clear h
  have hq := fun (w : World) (a : Option Addr) (n c : Nat) => Lib.run_eql_slice_nil (P := Try.prog) w 30 3 a n c 0 0 Try.underlying30
  cases a with
  | none =>
    obtain rfl := hnil rfl
    clear hnil
    go_enter Try.func16, Try.ntmps16
    go_wp2
    go_ret
    exact ⟨⟨none, 0, rfl, .inl rfl⟩, Below.refl _ _⟩
  | some x =>
    clear hnil
    have hm1 := run_make_row' (P := Try.prog) 30 3 (.int .i64 0) 8 Try.underlying30 info3 rfl .i64 .i64 n (by omega) (by omega)
    go_enter Try.func16, Try.ntmps16
    go_wp2
    go_loopw [4] (fun i wr => ∃ k : Nat, k ≤ n ∧ i = .int .i64 k ∧ Hid (Below w.heap.size w wr) ∧ Hid (GoodI .i64 k f wr w.heap.size n)) (fun i _ => n - (intOf i).toNat)
    case atStart =>
      exact ⟨0, Nat.zero_le _, rfl, (Below.refl _ _).alloc (Nat.le_refl _) _, hid (GoodI.made _ f w n _ _)⟩
    case round =>
      obtain ⟨k, hk, rfl, HB, HG⟩ := hrel
      clear hm1 hq
      by_cases hlt : k < n
      · rcases H.out with h0 | ⟨b, off, hx, hb, hc⟩
        · omega
        simp only [Option.some.injEq] at hx
        subst hx
        have c0 : wr.cell? ⟨b, off + k, none⟩ = some (.int .i64 (f k)) := (HB.out.cell (p := ⟨b, off + k, none⟩) hb).trans (hc k hlt)
        clear hc
        obtain ⟨⟨v, g0⟩, g1, _⟩ := HG.out.2 k hlt
        go_wp2
        go_roundw
        case rel =>
          go_light
          exact ⟨k + 1, by omega, by go_num, hid (HB.out.setCell (by simp) _), hid (HG.out.store hlt)⟩
        case measure => simp [intOf]; omega
      · have : k = n := by omega
        subst this
        go_wp2
        go_ret
        exact ⟨⟨_, _, rfl, HG.out.row⟩, HB.out⟩

set_option maxHeartbeats 1000000 in
theorem inside24 (a : Option Addr) (n c : Nat) (F L Pa : Nat → Int) (i d : Nat) (w : World) (hn : n ≤ 4096) (h : RowI .i64 w a n Pa) (hwf : WF n F L Pa) (hid' : i < d) (hd : d < n) :
    Calls Try.prog 24 #[.slice a n c, .int .i64 d, .int .i64 i] w fun e w' => e = .returned (.bool (decide (F d ≤ L i))) ∧ w = w' := by
  obtain ⟨b, off, rfl, hb, hc⟩ := h.at (by omega)
  have HC := hid hc
  have HW := hid hwf
  have cd := hc d hd
  clear hc hwf h
  go_enter Try.func24, Try.ntmps24
  go_wp2
  go_loop [7] (fun k => ∃ kk : Int, k = .int .i64 kk ∧ Hid (Chain F L i d kk)) (fun k => (intOf k + 1).toNat)
  case atStart => exact ⟨_, rfl, chain_start HW.out hid' hd⟩
  case round =>
    obtain ⟨kk, rfl, HK⟩ := hrel
    clear cd
    by_cases hgt : (i : Int) < kk
    · obtain ⟨m, rfl⟩ := Int.eq_ofNat_of_zero_le (show 0 ≤ kk by omega)
      have hm : m < d := by have := HK.out.2.1; omega
      obtain ⟨q1, q2⟩ := chain_step HW.out hd HK.out (by omega)
      have q0 := q1.1
      have HQ := hid q1
      clear q1
      have cm := HC.out m (by omega)
      generalize Pa m = pm at *
      have hgt2 : i < m := by omega
      have hmn : m < n := by omega
      go_wp2
      go_round
      case rel => exact ⟨_, rfl, HQ⟩
      case measure => simp [intOf]; omega
    · have hle : kk ≤ (i : Int) := by omega
      have hlt' : decide ((i : Int) < kk) = false := by simpa using hle
      have HE := hid (chain_end HK.out hle)
      go_wp2
      go_ret
      exact ⟨by rw [← HE.out]; rfl, rfl⟩

end Go.Proofs.Qxb6605806a
