/-
  ROWS OF TEXTS; the bounds; the clone.
-/
import Derived.Test.Qxb6605841aRows
import Derived.Test.Qxb6605841aPlain
import Derived.WalkKit
import Derived.WalkSpells
import Derived.WalkLawsBesides
import Derived.Deep.Light
import Derived.Deep.OwnRows
import Derived.Deep.QuietTactic
import Derived.BigQuiet
namespace Go.Proofs.Qxb6605841a
open Go.RowKit
set_option linter.unusedVariables false
set_option linter.unusedSimpArgs false

theorem hid {p : Prop} (h : p) : Hid p := h

/-- A slice of n texts that may be read: f 0, f 1, .. -/
def RowS (w : World) (a : Option Addr) (n : Nat) (f : Nat → ByteArray) : Prop :=
  n = 0 ∨ ∃ b off, a = some ⟨b, off, none⟩ ∧ b < w.heap.size ∧ ∀ j, j < n → w.cell? ⟨b, off + j, none⟩ = some (.string (f j))

theorem RowS.later {w w' : World} {a : Option Addr} {n : Nat} {f : Nat → ByteArray} (h : RowS w a n f) (hb : Below w.heap.size w w') : RowS w' a n f := by
  rcases h with h | ⟨b, off, rfl, hlt, hc⟩
  · exact .inl h
  · exact .inr ⟨b, off, rfl, Nat.lt_of_lt_of_le hlt hb.size, fun j hj => (hb.cell (p := ⟨b, off + j, none⟩) hlt).trans (hc j hj)⟩

theorem RowS.at {w : World} {a : Option Addr} {n : Nat} {f : Nat → ByteArray} (h : RowS w a n f) (hn : 0 < n) : ∃ b off, a = some ⟨b, off, none⟩ ∧ b < w.heap.size ∧ ∀ j, j < n → w.cell? ⟨b, off + j, none⟩ = some (.string (f j)) := by
  rcases h with h | h
  · omega
  · exact h

/-- What zzBytes answers. -/
def BytesSay (n : Nat) (f : Nat → ByteArray) (e : Ending) : Prop := ∃ r, e = .returned (.bool r) ∧ (r = true → n + tot f 0 n ≤ 1048576)

set_option maxHeartbeats 1000000 in
theorem bytes18 (a : Option Addr) (n c : Nat) (f : Nat → ByteArray) (w : World) (hn : n ≤ 9223372036854775807) (hs : ∀ j, j < n → (f j).size ≤ 9223372036854775807) (h : RowS w a n f) :
    Calls Try.prog 18 #[.slice a n c] w fun e w' => BytesSay n f e ∧ w = w' := by
  have H := hid h
  have HS := hid hs
  clear h hs
  by_cases h1 : n ≤ 1048576
  · go_enter Try.func18, Try.ntmps18
    go_wp2
    go_loop [3, 4] (fun z i => ∃ k : Nat, k ≤ n ∧ z = .int .i64 ((n + tot f 0 k : Nat) : Int) ∧ i = .int .i64 k ∧ n + tot f 0 k ≤ 1048576) (fun _ i => n - (intOf i).toNat)
    case atStart => exact ⟨0, Nat.zero_le _, rfl, rfl, h1⟩
    case round =>
      obtain ⟨k, hk, rfl, rfl, hb⟩ := hrel
      by_cases hlt : k < n
      · obtain ⟨b, off, rfl, hbl, hc⟩ := H.out.at (by omega)
        have c0 := hc k hlt
        have s0 := HS.out k hlt
        have ht : tot f 0 (k + 1) = tot f 0 k + (f k).size := by simp [tot]
        clear hc
        have k0 : (0 : Int) ≤ (k : Int) := by omega
        have k1 : (k : Int) < (n : Int) := by omega
        generalize hT : tot f 0 k = T at *
        generalize hZ : (f k).size = Z at *
        by_cases g1 : Z ≤ 1048576
        · by_cases g2 : n + T + Z ≤ 1048576
          · go_wp2
            go_round
            case rel => exact ⟨k + 1, by omega, by rw [ht]; go_num, by go_num, by omega⟩
            case measure => (simp [intOf] <;> omega)
          · go_wp2
            go_ret
            exact ⟨⟨false, rfl, fun h => by cases h⟩, rfl⟩
        · go_wp2
          go_ret
          exact ⟨⟨false, rfl, fun h => by cases h⟩, rfl⟩
      · have : n = k := by omega
        subst this
        go_wp2
        go_ret
        exact ⟨⟨true, rfl, fun _ => hb⟩, rfl⟩
  · go_enter Try.func18, Try.ntmps18
    go_wp2
    go_ret
    exact ⟨⟨false, rfl, fun h => by cases h⟩, rfl⟩

set_option maxHeartbeats 1000000 in
theorem total11 (a : Option Addr) (n c : Nat) (f : Nat → ByteArray) (w : World) (hn : n ≤ 65536) (hs : tot f 0 n ≤ 1048576) (h : RowS w a n f) :
    Calls Try.prog 11 #[.slice a n c] w fun e w' => (∃ r : Int, e = .returned (.int .i64 r)) ∧ w = w' := by
  have H := hid h
  have HS := hid hs
  clear h hs
  go_enter Try.func11, Try.ntmps11
  go_wp2
  go_loop [3, 4] (fun z i => ∃ k : Nat, k ≤ n ∧ z = .int .i64 ((16 * n + tot f 0 k : Nat) : Int) ∧ i = .int .i64 k) (fun _ i => n - (intOf i).toNat)
  case atStart => exact ⟨0, Nat.zero_le _, by simp [tot], rfl⟩
  case round =>
    obtain ⟨k, hk, rfl, rfl⟩ := hrel
    by_cases hlt : k < n
    · obtain ⟨b, off, rfl, hbl, hc⟩ := H.out.at (by omega)
      have c0 := hc k hlt
      have ht : tot f 0 (k + 1) = tot f 0 k + (f k).size := by simp [tot]
      have hb1 := Nat.le_trans (tot_le f 0 (show k + 1 ≤ n by omega)) HS.out
      clear hc
      have k0 : (0 : Int) ≤ (k : Int) := by omega
      have k1 : (k : Int) < (n : Int) := by omega
      generalize hT : tot f 0 k = T at *
      generalize hZ : (f k).size = Z at *
      by_cases g2 : 16 * n + T + Z ≤ 1048576
      · go_wp2
        go_round
        case rel => exact ⟨k + 1, by omega, by rw [ht]; go_num, by go_num⟩
        case measure => (simp [intOf] <;> omega)
      · go_wp2
        go_ret
        exact ⟨⟨_, rfl⟩, rfl⟩
    · have : n = k := by omega
      subst this
      go_wp2
      go_ret
      exact ⟨⟨_, rfl⟩, rfl⟩

/-- A row of n texts of the call's own, the first k of which are f's. -/
def GoodT (k : Nat) (f : Nat → ByteArray) (w : World) (b n : Nat) : Prop :=
  b < w.heap.size ∧ ∀ j, j < n → (∃ v, w.cell? ⟨b, j, none⟩ = some v) ∧ w.frozen? ⟨b, j, none⟩ = false ∧ (j < k → w.cell? ⟨b, j, none⟩ = some (.string (f j)))

theorem GoodT.made (f : Nat → ByteArray) (w : World) (n : Nat) (z : Value) (t : TypeId) : GoodT 0 f (w.alloc (.cells (madeCells #[z] n) t)) w.heap.size n := by
  refine ⟨by simp, fun j hj => ⟨⟨z, ?_⟩, by simp, fun h => absurd h (Nat.not_lt_zero _)⟩⟩
  simp [madeCells, hj, Nat.mod_one]

theorem GoodT.store {k : Nat} {f : Nat → ByteArray} {w : World} {b n : Nat} (h : GoodT k f w b n) (hk : k < n) : GoodT (k + 1) f (w.setCell ⟨b, k, none⟩ (.string (f k))) b n := by
  refine ⟨by simpa using h.1, fun j hj => ?_⟩
  obtain ⟨⟨v, c0⟩, f0, c1⟩ := h.2 j hj
  by_cases e : j = k
  · subst e
    have := World.cell?_setCell_same w ⟨b, j, none⟩ (.string (f j)) c0
    exact ⟨⟨_, this⟩, by simpa using f0, fun _ => this⟩
  · have hne : (⟨b, k, none⟩ : Addr) ≠ ⟨b, j, none⟩ := by intro q; injection q; omega
    refine ⟨⟨v, ?_⟩, by simpa using f0, fun hj' => ?_⟩
    · rw [World.cell?_setCell_other _ _ _ _ hne]; exact c0
    · rw [World.cell?_setCell_other _ _ _ _ hne]; exact c1 (by omega)

theorem GoodT.row {f : Nat → ByteArray} {w : World} {b n : Nat} (h : GoodT n f w b n) : RowS w (some ⟨b, 0, none⟩) n f :=
  .inr ⟨b, 0, rfl, h.1, fun j hj => by rw [Nat.zero_add]; exact (h.2 j hj).2.2 hj⟩

theorem info9 : (Try.prog.info? 9).map (fun i => (i.zero, i.size, i.bytes)) = some (some (.string .empty), 1, 16) := by kernel_rfl

set_option maxHeartbeats 1000000 in
theorem clone12 (x : Addr) (n c : Nat) (f : Nat → ByteArray) (w : World) (hn : n ≤ 65536) (h : RowS w (some x) n f) :
    Calls Try.prog 12 #[.slice (some x) n c] w fun e w' => (∃ b, e = .returned (.slice (some ⟨b, 0, none⟩) n n) ∧ RowS w' (some ⟨b, 0, none⟩) n f) ∧ Below w.heap.size w w' := by
  have H := hid h
  clear h
  have hq := fun (w : World) (a : Option Addr) (n c : Nat) => Lib.run_eql_slice_nil (P := Try.prog) w 28 9 a n c 0 0 Try.underlying28
  have hm1 := run_make_row' (P := Try.prog) 28 9 (.string .empty) 16 Try.underlying28 info9 rfl .i64 .i64 n (by omega) (by omega)
  go_enter Try.func12, Try.ntmps12
  go_wp2
  go_loopw [4] (fun i wr => ∃ k : Nat, k ≤ n ∧ i = .int .i64 k ∧ Hid (Below w.heap.size w wr) ∧ Hid (GoodT k f wr w.heap.size n)) (fun i _ => n - (intOf i).toNat)
  case atStart =>
    exact ⟨0, Nat.zero_le _, rfl, (Below.refl _ _).alloc (Nat.le_refl _) _, hid (GoodT.made f w n _ _)⟩
  case round =>
    obtain ⟨k, hk, rfl, HB, HG⟩ := hrel
    clear hm1 hq
    by_cases hlt : k < n
    · rcases H.out with h0 | ⟨b, off, hx, hb, hc⟩
      · omega
      simp only [Option.some.injEq] at hx
      subst hx
      have c0 : wr.cell? ⟨b, off + k, none⟩ = some (.string (f k)) := (HB.out.cell (p := ⟨b, off + k, none⟩) hb).trans (hc k hlt)
      clear hc
      obtain ⟨⟨v, g0⟩, g1, _⟩ := HG.out.2 k hlt
      go_wp2
      go_roundw
      case rel =>
        go_light
        refine ⟨k + 1, by omega, by go_num, ?_, ?_⟩
        · exact hid (HB.out.setCell (p := ⟨w.heap.size, _, none⟩) (Nat.le_refl _) _)
        · exact hid (HG.out.store hlt)
      case measure => (simp [intOf] <;> omega)
    · have : k = n := by omega
      subst this
      go_wp2
      go_ret
      exact ⟨⟨_, rfl, HG.out.row⟩, HB.out⟩

end Go.Proofs.Qxb6605841a
