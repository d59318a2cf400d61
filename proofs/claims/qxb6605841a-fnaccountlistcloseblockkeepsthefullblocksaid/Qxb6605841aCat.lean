/-
  concatAccounts.
-/
import Derived.Test.Qxb6605841aBase
import Derived.OwnWalk
import Derived.Lib.AppendStr
import Derived.Lib.UnsafeStr
import Derived.Lib.Builder
import Derived.Laws.IdiomStrings
namespace Go.Proofs.Qxb6605841a
open Go.RowKit
set_option linter.unusedVariables false
set_option linter.unusedSimpArgs false

theorem info5 : (Try.prog.info? 5).map (fun i => (i.zero, i.size, i.bytes)) = some (some (.int .u8 0), 1, 1) := by kernel_rfl

theorem make49 (n : Nat) (hn : n ≤ 1048576) (w : World) : (Instr.makeSlice 49 (.int .i64 0) (.int .i64 (n : Int))).run Try.prog w = .ok (.slice (some ⟨w.heap.size, 0, none⟩) 0 n) (w.alloc (.cells (madeCells #[.int .u8 0] n) 5)) := by
  obtain ⟨i, hi, hz, hs, hb⟩ := info_parts info5
  have hr := run_make (P := Try.prog) w 49 5 i _ Try.underlying49 hi hz .i64 .i64 0 n (by omega) (by omega) (by rw [hb]; omega) (by omega)
  simp only [Int.toNat_natCast, Int.toNat_zero, hs, Nat.mul_one] at hr
  exact hr

theorem catCells (f : Nat → ByteArray) (p m : Nat) : Lib.byteCells (cat f p (m + 1)) = Lib.byteCells (cat f p m) ++ Lib.strCells (f (p + m)) := by
  simp [cat, Lib.byteCells, Lib.strCells]

set_option maxRecDepth 100000 in
set_option maxHeartbeats 2000000 in
theorem concat15 (a : Option Addr) (n c p m : Nat) (f : Nat → ByteArray) (w : World) (hn : n ≤ 65536) (hs : tot f 0 n ≤ 1048576) (hpm : p + m ≤ n) (hm : 0 < m) (h : RowS w a n f) :
    Calls Try.prog 15 #[.slice a n c, .int .i64 p, .int .i64 ((p + m : Nat) : Int)] w fun e w' => e = .returned (.string ⟨(cat f p m).toArray⟩) ∧ Below w.heap.size w w' := by
  obtain ⟨b, off, rfl, hbl, hc⟩ := h.at (by omega)
  have HC := hid hc
  have HS := hid hs
  clear h hc hs
  obtain ⟨i0, hi, hz0, hz1, hz2⟩ := info_parts info5
  go_enter Try.func15, Try.ntmps15
  go_wp2
  go_loop [7, 8] (fun z i => ∃ k : Nat, k ≤ m ∧ z = .int .i64 ((tot f p k : Nat) : Int) ∧ i = .int .i64 ((p + k : Nat) : Int)) (fun _ i => p + m - (intOf i).toNat)
  case atStart => exact ⟨0, Nat.zero_le _, rfl, rfl⟩
  case round =>
    obtain ⟨k, hk, rfl, rfl⟩ := hrel
    by_cases hlt : k < m
    · have c0 := HC.out (p + k) (by omega)
      have ht : tot f p (k + 1) = tot f p k + (f (p + k)).size := rfl
      have hb1 := Nat.le_trans (tot_in f (show p + (k + 1) ≤ n by omega)) HS.out
      have k0 : (0 : Int) ≤ ((p + k : Nat) : Int) := by omega
      have k1 : ((p + k : Nat) : Int) < (n : Int) := by omega
      generalize hT : tot f p k = T at *
      generalize hZ : (f (p + k)).size = Z at *
      generalize hPK : p + k = pk at *
      go_wp2
      go_round
      case rel => exact ⟨k + 1, by omega, by rw [ht]; go_num, by rw [← hPK]; go_num⟩
      case measure => (simp [intOf] <;> omega)
    · have : m = k := by omega
      subst this
      have hT := Nat.le_trans (tot_in f hpm) HS.out
      have hmk := make49 (tot f p m) hT
      go_wp2
      clear hmk
      go_loopw [9, 10] (fun s9 s10 wr => ∃ k : Nat, k ≤ m ∧ s10 = .int .i64 ((p + k : Nat) : Int) ∧ Hid (wr.ownsRow w.heap.size 5 1 s9 (tot f p k) (Lib.byteCells (cat f p k))) ∧ Hid (s9 ≠ .slice none 0 0) ∧ Hid (Below w.heap.size w wr)) (fun _ i _ => p + m - (intOf i).toNat)
      case atStart =>
        exact ⟨0, Nat.zero_le _, rfl, hid (World.ownsRow_made w _ (tot f p m) (Nat.le_refl _) (by unfold maxLen; omega) (by simp [size_madeCells])), hid (by simp), hid ((Below.refl _ _).alloc (Nat.le_refl _) _)⟩
      case round =>
        obtain ⟨k, hk, rfl, HO, HN, HB⟩ := hrel
        by_cases hlt' : k < m
        · have c0 : wr.cell? ⟨b, off + (p + k), none⟩ = some (.string (f (p + k))) := (HB.out.cell (p := ⟨b, off + (p + k), none⟩) hbl).trans (HC.out (p + k) (by omega))
          have hb1 := Nat.le_trans (tot_in f (show p + (k + 1) ≤ n by omega)) HS.out
          have ht : tot f p (k + 1) = tot f p k + (f (p + k)).size := rfl
          have k0 : (0 : Int) ≤ ((p + k : Nat) : Int) := by omega
          have k1 : ((p + k : Nat) : Int) < (n : Int) := by omega
          have hcc := hid (catCells f p k)
          generalize hPK : p + k = pk at *
          go_wp2_with (at_builtin; refine Lib.wpList_append_own_string _ rfl _ _ 49 9 rfl w.heap.size 5 i0 Try.underlying49 Try.underlying9 hi hz0 hz1 hz2 _ _ _ rfl HO.out (f pk) rfl (by unfold maxLen; omega) (by omega) HB.out.size ?_; intro v' w2 hown' hgrow hnil; have HO' := hid hown'; have HG := hid hgrow; have HN' := hid hnil; clear hown' hgrow hnil)
          go_roundw
          case rel =>
            go_light
            refine ⟨k + 1, by omega, by rw [← hPK]; go_num, ?_, ?_, ?_⟩
            · have := HO'.out
              rw [← hcc.out, ← ht] at this
              exact this
            · exact fun e => HN.out (HN'.out.1 e).1
            · exact HB.out.grown HG.out HB.out.size (fun g e => (HO.out.lt g e).1)
          case measure => (simp [intOf] <;> omega)
        · have : m = k := by omega
          subst this
          obtain ⟨g, cap, cur, hv, hcells⟩ : ∃ g cap, ∃ cur : Array Value, u9 = .slice (some ⟨g, 0, none⟩) (tot f p m) cap ∧ ∀ j u, (Lib.byteCells (cat f p m))[j]? = some u → wr.cell? ((⟨g, 0, none⟩ : Addr).add j) = some u := by
            rcases HO.out.2 with ⟨e, _⟩ | ⟨g, cap, cur, e, _⟩
            · exact absurd e HN.out
            · exact ⟨g, cap, cur, e, HO.out.cells (by rw [e]; rfl)⟩
          subst hv
          have hcv := run_convert_bytes_back (P := Try.prog) wr 49 9 5 ⟨g, 0, none⟩ cap (cat f p m) Try.underlying49 Try.underlying5 Try.underlying9 (fun j hj => hcells j _ (by simp [Lib.byteCells, hj]))
          rw [cat_length] at hcv
          clear hcells
          go_wp2
          go_ret
          exact ⟨rfl, HB.out⟩

end Go.Proofs.Qxb6605841a
