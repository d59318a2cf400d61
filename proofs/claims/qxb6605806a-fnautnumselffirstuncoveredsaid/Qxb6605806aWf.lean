/-
  zzNestedWellFormed by its contract.
-/
import Derived.Test.Qxb6605806aBase
import Derived.Deep.CutRange
namespace Go.Proofs.Qxb6605806a
open Go.RowKit
set_option linter.unusedVariables false
set_option linter.unusedSimpArgs false

def stkVals (st : List Nat) : List Value := st.map fun (a : Nat) => Value.int .i64 (a : Int)

theorem wf_next {F L Pa : Nat → Int} {k : Nat} {s1 po : List Nat} (h : WF k F L Pa) (hS : Stk F L k (s1 ++ po).reverse) (hpo : ∀ a, a ∈ po → L a < F k) (h1 : F k ≤ L k) (hm : 0 < k → F (k - 1) ≤ F k)
    (htop : (s1 = [] ∧ Pa k = -1) ∨ ∃ s2 t, s1 = s2 ++ [t] ∧ F k ≤ L t ∧ L k ≤ L t ∧ Pa k = (t : Int)) : WF (k + 1) F L Pa ∧ Stk F L (k + 1) (s1 ++ [k]).reverse := by
  rw [List.reverse_append] at hS
  have := wf_step h hS (fun a ha => hpo a (by simpa using ha)) h1 hm (by
    rcases htop with ⟨e, q⟩ | ⟨s2, t, e, q⟩
    · exact .inl ⟨by rw [e]; rfl, q⟩
    · exact .inr ⟨t, s2.reverse, by rw [e]; simp, q⟩)
  rw [List.reverse_append]
  exact this

theorem stkVals_snoc (s : List Nat) (k : Nat) : stkVals (s ++ [k]) = stkVals s ++ [.int .i64 (k : Int)] := by simp [stkVals]
theorem stkVals_length (s : List Nat) : (stkVals s).length = s.length := by simp [stkVals]

theorem grown_below {w wr w1 : World} {q : Nat} {o : Obj} (HB : Below w.heap.size w wr) (hg : ((wr.drewN q).alloc o).grownBy w1 (some w.heap.size)) : Below w.heap.size w w1 :=
  ((below_drewN HB q).alloc HB.size o).grown hg (by have := HB.size; show w.heap.size ≤ ((wr.drewN q).alloc o).heap.size; rw [World.size_alloc]; show w.heap.size ≤ wr.heap.size + 1; omega) (fun k e => by cases e; exact Nat.le_refl _)

theorem desc_len : ∀ (st : List Nat) (k : Nat), st.Pairwise (fun a b => b < a) → (∀ a, a ∈ st → a < k) → st.length ≤ k
  | [], _, _, _ => Nat.zero_le _
  | a :: st, k, hp, hl => by
    have h1 := desc_len st a (List.pairwise_cons.1 hp).2 (List.pairwise_cons.1 hp).1
    have h2 := hl a List.mem_cons_self
    simp only [List.length_cons]
    omega

def lenOf : Value → Nat | .slice _ n _ => n | _ => 0

theorem make30 (n : Nat) (hn : n ≤ 4096) (w : World) :
    (Instr.makeSlice 30 (.int .i64 0) (.int .i64 (n : Int))).run Try.prog w = .ok (.slice (some ⟨w.heap.size, 0, none⟩) 0 n) (w.alloc (.cells (madeCells #[.int .i64 0] n) 3)) := by
  obtain ⟨i, hi, hz, hs, hb⟩ := info_parts info3
  have hr := run_make (P := Try.prog) w 30 3 i _ Try.underlying30 hi hz .i64 .i64 0 n (by omega) (by omega) (by rw [hb]; omega) (by omega)
  simp only [Int.toNat_natCast, Int.toNat_zero, hs, Nat.mul_one] at hr
  exact hr

set_option maxRecDepth 100000 in
set_option maxHeartbeats 2000000 in
theorem wf14 (a0 a1 a2 : Option Addr) (n c0 c1 c2 : Nat) (F L Pa : Nat → Int) (w : World) (hn : n ≤ 4096) (hn0 : 0 < n) (h0 : RowI .u32 w a0 n F) (h1 : RowI .u32 w a1 n L) (h2 : RowI .i64 w a2 n Pa) :
    Calls Try.prog 14 #[.slice a0 n c0, .slice a1 n c1, .slice a2 n c2] w fun e w' => (∃ r, e = .returned (.bool r) ∧ (r = true → WF n F L Pa)) ∧ Below w.heap.size w w' := by
  obtain ⟨b0, o0, rfl, hb0, hc0⟩ := h0.at hn0
  obtain ⟨b1, o1, rfl, hb1, hc1⟩ := h1.at hn0
  obtain ⟨b2, o2, rfl, hb2, hc2⟩ := h2.at hn0
  have H0 := hid hc0
  have H1 := hid hc1
  have H2 := hid hc2
  clear h0 h1 h2 hc0 hc1 hc2
  have hmk := make30 n hn
  obtain ⟨i0, hi, hz0, hz1, hz2⟩ := info_parts info3
  go_enter Try.func14, Try.ntmps14
  go_wp2
  clear hmk
  go_loopw [8, 9, 10, 11] (fun s8 s9 _ _ wr => ∃ (k : Nat) (st : List Nat), k ≤ n ∧ s9 = .int .i64 k ∧ s8 = .slice (some ⟨w.heap.size, 0, none⟩) st.length n ∧ Hid (wr.ownsRow w.heap.size 3 1 (.slice (some ⟨w.heap.size, 0, none⟩) st.length n) st.length (stkVals st)) ∧ Hid (Below w.heap.size w wr) ∧ Hid (WF k F L Pa) ∧ Hid (Stk F L k st.reverse)) (fun _ i _ _ _ => n - (intOf i).toNat)
  case atStart =>
    exact ⟨0, [], Nat.zero_le _, rfl, rfl, hid (World.ownsRow_made w _ n (Nat.le_refl _) (by unfold maxLen; omega) (by simp [size_madeCells])), (Below.refl _ _).alloc (Nat.le_refl _) _, wf_zero _ _ _, stk_zero _ _⟩
  case round =>
    obtain ⟨k, st, hk, rfl, rfl, HO, HB, HWF, HST⟩ := hrel
    by_cases hlt : k < n
    · have f0 : wr.cell? ⟨b0, o0 + k, none⟩ = some (.int .u32 (F k)) := (HB.out.cell (p := ⟨b0, o0 + k, none⟩) hb0).trans (H0.out k hlt)
      have l0 : wr.cell? ⟨b1, o1 + k, none⟩ = some (.int .u32 (L k)) := (HB.out.cell (p := ⟨b1, o1 + k, none⟩) hb1).trans (H1.out k hlt)
      have p0 : wr.cell? ⟨b2, o2 + k, none⟩ = some (.int .i64 (Pa k)) := (HB.out.cell (p := ⟨b2, o2 + k, none⟩) hb2).trans (H2.out k hlt)
      have k0 : (0 : Int) ≤ (k : Int) := by omega
      have k1 : (k : Int) < (n : Int) := by omega
      by_cases hfl : L k < F k
      · go_wp2
        go_quiet (fail)
        go_wp2
        go_ret
        exact ⟨⟨_, rfl, fun h => by cases h⟩, below_drewN HB.out _⟩
      · have hfl' : F k ≤ L k := by omega
        go_wp2
        go_quiet (fail)
        go_upto_if 31 with (fail)
        go_cut [] from 16 to 116 (fun wx => ∃ q, wx = wr.drewN q ∧ Hid (0 < k → F (k - 1) ≤ F k))
        case first =>
          cases k with
          | zero =>
            go_wp2
            go_meet
            case rel => exact ⟨_, rfl, fun h => absurd h (Nat.lt_irrefl _)⟩
          | succ m =>
            have fm : wr.cell? ⟨b0, o0 + m, none⟩ = some (.int .u32 (F m)) := (HB.out.cell (p := ⟨b0, o0 + m, none⟩) hb0).trans (H0.out m (by omega))
            have lm : wr.cell? ⟨b1, o1 + m, none⟩ = some (.int .u32 (L m)) := (HB.out.cell (p := ⟨b1, o1 + m, none⟩) hb1).trans (H1.out m (by omega))
            have m0 : (0 : Int) ≤ (m : Int) := by omega
            have m1 : (m : Int) < (n : Int) := by omega
            by_cases hff : F (m + 1) < F m
            · go_wp2
              go_quiet (fail)
              go_wp2
              go_ret
              exact ⟨⟨_, rfl, fun h => by cases h⟩, below_drewN (below_drewN HB.out _) _⟩
            · have hff' : F m ≤ F (m + 1) := by omega
              go_wp2
              go_quiet (fail)
              by_cases he : F m = F (m + 1)
              · have he' : (F m == F (m + 1)) = true := by simpa using he
                by_cases hll : L m < L (m + 1)
                · go_wp2
                  go_quiet (fail)
                  go_wp2
                  go_ret
                  exact ⟨⟨_, rfl, fun h => by cases h⟩, below_drewN (below_drewN (below_drewN HB.out _) _) _⟩
                · have hll' : L (m + 1) ≤ L m := by omega
                  go_wp2
                  go_quiet (fail)
                  go_wp2
                  go_meet
                  case rel => exact ⟨_, (by first | (rw [World.drewN_drewN, World.drewN_drewN]) | (rw [World.drewN_drewN])), fun _ => by simpa using hff'⟩
              · have he' : (F m == F (m + 1)) = false := by simpa using he
                go_wp2
                go_quiet (fail)
                go_wp2
                go_meet
                case rel => exact ⟨_, (by first | (rw [World.drewN_drewN, World.drewN_drewN]) | (rw [World.drewN_drewN])), fun _ => by simpa using hff'⟩
        case rest =>
          obtain ⟨q, rfl, HFF⟩ := hcut
          go_wp2
          go_loopw [8] (fun s8 wx => ∃ (s1 po : List Nat) (q' : Nat), st = s1 ++ po ∧ Hid (∀ a, a ∈ po → L a < F k) ∧ s8 = .slice (some ⟨w.heap.size, 0, none⟩) s1.length n ∧ wx = wr.drewN q' ∧ Hid (wr.ownsRow w.heap.size 3 1 (.slice (some ⟨w.heap.size, 0, none⟩) s1.length n) s1.length (stkVals s1))) (fun v _ => lenOf v)
          case atStart => exact ⟨st, [], q, by simp, hid (fun a h => by simp at h), rfl, rfl, HO⟩
          case round =>
            obtain ⟨s1, po, q', hst, HPO, rfl, rfl, HO1⟩ := hrel
            have HSP := hid hst
            clear hst
            rcases List.eq_nil_or_concat s1 with hnil | ⟨s2, t, hs2⟩
            · subst hnil
              by_cases hp : Pa k = -1
              · have hp' : (Pa k != -1) = false := by simp [hp]
                go_wp2
                go_quiet (fail)
                have HN := hid (wf_next HWF.out (by rw [HSP.out] at HST; exact HST.out) HPO.out hfl' HFF.out (.inl ⟨rfl, hp⟩))
                go_wp2_with (at_builtin; refine wpList_append_fits _ rfl _ _ 30 rfl w.heap.size 3 i0 1 Try.underlying30 hi hz1 w.heap.size 0 n [] rfl (by exact HO1.out.alloc _) ⟨wr.heap.size, 0, none⟩ 1 1 [.int .i64 (k : Int)] rfl rfl (cell_one_new _ _ _) (by simp [Value.oneCell']) (by omega) ?_; intro w1 hown1 hgrow1)
                have hbe := grown_below HB.out hgrow1
                go_roundw
                case rel =>
                  go_light
                  exact ⟨k + 1, [k], by omega, by go_num, rfl, hid (by simpa [stkVals] using hown1), hid hbe, hid HN.out.1, hid HN.out.2⟩
                case measure => simp [intOf]; omega
              · have hp' : (Pa k != -1) = true := by simp [hp]
                go_wp2
                go_quiet (fail)
                go_wp2
                go_ret
                exact ⟨⟨_, rfl, fun h => by cases h⟩, below_drewN HB.out _⟩
            · rw [List.concat_eq_append] at hs2
              subst hs2
              have htk : t < k := HST.out.lt t (by rw [HSP.out]; simp)
              have hsl : s2.length + 1 ≤ k := by
                have h1 := desc_len _ k HST.out.down HST.out.lt
                rw [HSP.out] at h1
                simp at h1
                omega
              have hlen : (s2 ++ [t]).length = s2.length + 1 := by simp
              have hcap : s2.length + 1 ≤ n := by
                have := HO1.out.2
                rcases this with ⟨e, _⟩ | ⟨g, cap, cur, e, _, _, e2, _⟩
                · cases e
                · injection e with e1 e2' e3
                  omega
              have ct : wr.cell? ⟨w.heap.size, s2.length, none⟩ = some (.int .i64 (t : Int)) := by
                have := HO1.out.cellAt s2.length (by simp)
                rw [this, stkVals_snoc, List.getElem?_append_right (by rw [stkVals_length]; omega), stkVals_length]
                simp
              have lt0 : wr.cell? ⟨b1, o1 + t, none⟩ = some (.int .u32 (L t)) := (HB.out.cell (p := ⟨b1, o1 + t, none⟩) hb1).trans (H1.out t (by omega))
              have t0 : (0 : Int) ≤ (t : Int) := by omega
              have t1 : (t : Int) < (n : Int) := by omega
              have s0 : (0 : Int) < ((s2.length : Nat) : Int) + 1 := by omega
              rw [hlen] at HO1 ⊢
              by_cases hpop : L t < F k
              · go_wp2
                go_quiet (fail)
                go_wp2
                go_roundw
                case rel =>
                  go_light
                  refine ⟨s2, t :: po, _, by rw [HSP.out]; simp, hid ?_, ?_, rfl, hid ?_⟩
                  · intro a ha
                    rcases List.mem_cons.1 ha with rfl | ha
                    · exact hpop
                    · exact HPO.out a ha
                  · rfl
                  · exact ownsRow_pop (by rw [stkVals_length]; omega) (by rw [← stkVals_snoc]; exact HO1.out)
                case measure => simp [lenOf]
              · have hpop' : F k ≤ L t := by omega
                by_cases hll : L t < L k
                · go_wp2
                  go_quiet (fail)
                  go_wp2
                  go_quiet (fail)
                  go_wp2
                  go_ret
                  exact ⟨⟨_, rfl, fun h => by cases h⟩, below_drewN (below_drewN HB.out _) _⟩
                · have hll' : L k ≤ L t := by omega
                  by_cases hp : Pa k = (t : Int)
                  · have hp' : (Pa k != (t : Int)) = false := by simp [hp]
                    have HN := hid (wf_next HWF.out (by rw [HSP.out] at HST; exact HST.out) HPO.out hfl' HFF.out (.inr ⟨s2, t, rfl, hpop', hll', hp⟩))
                    have HPP := hid hp
                    clear hp
                    go_wp2
                    go_quiet (fail)
                    go_wp2
                    go_quiet (fail)
                    go_wp2_with (at_builtin; refine wpList_append_fits _ rfl _ _ 30 rfl w.heap.size 3 i0 1 Try.underlying30 hi hz1 w.heap.size (s2.length + 1) n (stkVals (s2 ++ [t])) rfl (by exact HO1.out.alloc _) ⟨wr.heap.size, 0, none⟩ 1 1 [.int .i64 (k : Int)] rfl rfl (cell_one_new _ _ _) (by simp [Value.oneCell']) (by omega) ?_; intro w1 hown1 hgrow1)
                    have hbe := grown_below HB.out hgrow1
                    go_roundw
                    case rel =>
                      go_light
                      exact ⟨k + 1, s2 ++ [t] ++ [k], by omega, by go_num, by simp, hid (by rw [stkVals_snoc (s2 ++ [t])]; simpa using hown1), hid hbe, hid HN.out.1, hid HN.out.2⟩
                    case measure => simp [intOf]; omega
                  · have hp' : (Pa k != (t : Int)) = true := by simp [hp]
                    go_wp2
                    go_quiet (fail)
                    go_wp2
                    go_quiet (fail)
                    go_wp2
                    go_ret
                    exact ⟨⟨_, rfl, fun h => by cases h⟩, below_drewN HB.out _⟩
    · have : k = n := by omega
      subst this
      go_wp2
      go_ret
      exact ⟨⟨_, rfl, fun _ => HWF.out⟩, HB.out⟩

end Go.Proofs.Qxb6605806a
