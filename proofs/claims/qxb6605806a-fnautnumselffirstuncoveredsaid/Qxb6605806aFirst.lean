/-
  zzFirstUncovered: it finds the right answer.
-/
import Derived.Test.Qxb6605806aSpans
namespace Go.Proofs.Qxb6605806a
open Go.RowKit Go.Shelf
set_option linter.unusedVariables false
set_option linter.unusedSimpArgs false

theorem info4 : (Try.prog.info? 4).map (fun i => (i.zero, i.size, i.bytes)) = some (some (.bool false), 1, 1) := by kernel_rfl

/-- inside[j], when the marks below k are set. -/
def inB (F L : Nat → Int) (i k j : Nat) : Bool := decide (i < j ∧ j < k ∧ F j ≤ L i)

def GoodB (k : Nat) (F L : Nat → Int) (i : Nat) (w : World) (b n : Nat) : Prop :=
  b < w.heap.size ∧ ∀ j, j < n → w.frozen? ⟨b, j, none⟩ = false ∧ w.cell? ⟨b, j, none⟩ = some (.bool (inB F L i k j))

theorem GoodB.made (F L : Nat → Int) (i : Nat) (w : World) (n : Nat) (t : TypeId) : GoodB (i + 1) F L i (w.alloc (.cells (madeCells #[.bool false] n) t)) w.heap.size n := by
  refine ⟨by simp, fun j hj => ⟨by simp, ?_⟩⟩
  have : inB F L i (i + 1) j = false := by simp [inB]; omega
  rw [this]
  simp [madeCells, hj, Nat.mod_one]

theorem GoodB.store {k : Nat} {F L : Nat → Int} {i : Nat} {w : World} {b n : Nat} (h : GoodB k F L i w b n) (hik : i < k) : GoodB (k + 1) F L i (w.setCell ⟨b, k, none⟩ (.bool (decide (F k ≤ L i)))) b n := by
  refine ⟨by simpa using h.1, fun j hj => ?_⟩
  obtain ⟨f0, c0⟩ := h.2 j hj
  refine ⟨by simpa using f0, ?_⟩
  by_cases e : j = k
  · subst e
    rw [World.cell?_setCell_same w ⟨b, j, none⟩ _ c0]
    simp [inB, hik]
  · have hne : (⟨b, k, none⟩ : Addr) ≠ ⟨b, j, none⟩ := by intro q; injection q; omega
    rw [World.cell?_setCell_other _ _ _ _ hne, c0]
    congr 2
    simp only [inB, decide_eq_decide]
    constructor
    · rintro ⟨a, b, c⟩; exact ⟨a, by omega, c⟩
    · rintro ⟨a, b, c⟩; exact ⟨a, by omega, c⟩

/-- Covered by a span after i and ahead of d. -/
def CovTo (F L : Nat → Int) (i d : Nat) (x : Int) : Prop := ∃ e, i < e ∧ e < d ∧ F e ≤ x ∧ x ≤ L e

theorem covTo_start (F L : Nat → Int) (i : Nat) (x : Int) : false = true ↔ CovTo F L i (i + 1) x :=
  ⟨fun h => (by cases h), fun ⟨e, h1, h2, _⟩ => by omega⟩

theorem covTo_hit {F L : Nat → Int} {i d : Nat} {x : Int} (hd : i < d) (h : F d ≤ x ∧ x ≤ L d) : true = true ↔ CovTo F L i (d + 1) x :=
  ⟨fun _ => ⟨d, hd, by omega, h⟩, fun _ => rfl⟩

theorem covTo_miss {F L : Nat → Int} {i d : Nat} {x : Int} (h : false = true ↔ CovTo F L i d x) (hn : ¬ (F d ≤ x ∧ x ≤ L d)) : false = true ↔ CovTo F L i (d + 1) x :=
  ⟨fun h => (by cases h), fun ⟨e, h1, h2, h3⟩ => by
    by_cases q : e = d
    · subst q; exact absurd h3 hn
    · exact h.2 ⟨e, h1, by omega, h3⟩⟩

theorem covTo_cov {n : Nat} {F L : Nat → Int} {i d : Nat} {x : Int} (h : CovTo F L i d x) (hd : d ≤ n) : Cov n F L i x :=
  have ⟨e, h1, h2, h3⟩ := h
  ⟨e, h1, by omega, h3⟩

theorem covTo_not {n : Nat} {F L : Nat → Int} {i : Nat} {x : Int} (h : false = true ↔ CovTo F L i n x) : ¬ Cov n F L i x :=
  fun ⟨e, h1, h2, h3⟩ => by cases h.2 ⟨e, h1, h2, h3⟩

set_option maxRecDepth 100000 in
set_option maxHeartbeats 4000000 in
theorem first18 (a0 a1 a2 : Option Addr) (n c0 c1 c2 i : Nat) (F L Pa : Nat → Int) (w : World) (hn : n ≤ 4096) (hi : i < n) (hwf : WF n F L Pa) (hu : ∀ k, k < n → 0 ≤ F k ∧ F k ≤ 4294967295 ∧ 0 ≤ L k ∧ L k ≤ 4294967295)
    (h0 : RowI .u32 w a0 n F) (h1 : RowI .u32 w a1 n L) (h2 : RowI .i64 w a2 n Pa) :
    Calls Try.prog 18 #[.slice a0 n c0, .slice a1 n c1, .slice a2 n c2, .int .i64 i] w fun e w' => (∃ r, e = .returned (.int .u32 r) ∧ Ans n F L i r) ∧ Below w.heap.size w w' := by
  have H2 := hid h2
  obtain ⟨b0, o0, rfl, l0, r0⟩ := h0.at (by omega)
  obtain ⟨b1, o1, rfl, l1, r1⟩ := h1.at (by omega)
  have HWF := hid hwf
  have HU := hid hu
  have R0 := hid r0
  have R1 := hid r1
  have g0 := r0 i hi
  have g1 := r1 i hi
  obtain ⟨u1, u2, u3, u4⟩ := hu i hi
  have i0 : (0 : Int) ≤ (i : Int) := by omega
  have i1 : (i : Int) < (n : Int) := by omega
  clear hwf hu r0 r1 h0 h1 h2
  have hm1 := run_make_row' (P := Try.prog) 48 4 (.bool false) 1 Try.underlying48 info4 rfl .i64 .i64 n (by omega) (by omega)
  go_enter Try.func18, Try.ntmps18
  go_wp2
  go_loopw [13] (fun s wr => ∃ k : Nat, i < k ∧ k ≤ n ∧ s = .int .i64 k ∧ Hid (Below w.heap.size w wr) ∧ Hid (GoodB k F L i wr w.heap.size n)) (fun s _ => n - (intOf s).toNat)
  case atStart =>
    exact ⟨i + 1, by omega, by omega, by go_num, hid ((Below.refl _ _).alloc (Nat.le_refl _) _), hid (GoodB.made F L i w n _)⟩
  case round =>
    obtain ⟨k, hik, hk, rfl, HB, HG⟩ := hrel
    clear hm1 g0 g1
    by_cases hlt : k < n
    · have hcon := inside24 a2 n c2 F L Pa i k wr hn (H2.out.later HB.out) HWF.out hik hlt
      obtain ⟨f0, p0⟩ := HG.out.2 k hlt
      have k0 : (0 : Int) ≤ (k : Int) := by omega
      have k1 : (k : Int) < (n : Int) := by omega
      go_wp2_with (go_at_call 24; refine hcon.mono ?_; rintro e w' ⟨rfl, rfl⟩)
      go_roundw
      case rel =>
        go_light
        refine ⟨k + 1, by omega, by omega, by go_num, ?_, ?_⟩
        · exact hid (HB.out.setCell (p := ⟨w.heap.size, _, none⟩) (Nat.le_refl _) _)
        · exact hid (HG.out.store hik)
      case measure => simp [intOf]; omega
    · have : n = k := by omega
      subst this
      go_wp2
      go_loop [14, 15, 16] (fun s14 s15 s16 => ∃ (best : Int) (found : Bool) (cc : Nat), s14 = .int .u32 best ∧ s15 = .bool found ∧ s16 = .int .i64 ((cc : Int) - 1) ∧ cc ≤ n + 1 ∧ 0 ≤ best ∧ best ≤ 4294967295 ∧ Hid (Best n F L i cc best found)) (fun _ _ s16 => ((n : Int) - intOf s16).toNat)
      case atStart => exact ⟨F i, false, 0, rfl, rfl, by go_num, by omega, u1, u2, hid (best_start n F L i)⟩
      case round =>
        obtain ⟨best, found, cc, rfl, rfl, rfl, hcn, hx0, hx1, HBest⟩ := hrel
        by_cases hc : cc ≤ n
        · cases cc with
          | zero =>
            have HK : Hid (Cov n F L i (F i) ∨ (found = true ∧ best ≤ F i) → Best n F L i (0 + 1) best found) := fun h => best_keep HBest.out (fun _ => h) (fun d hd => by omega)
            have HT : Hid (¬ Cov n F L i (F i) → (found = false ∨ F i < best) → Best n F L i (0 + 1) (F i) true) := fun h h' => best_take HBest.out (Int.le_refl _) (HWF.out.le i hi) h h' (fun _ => rfl) (fun d hd => by omega)
            have hfl := HWF.out.le i hi
            go_wp2
            go_loop [18, 19] (fun s18 s19 => ∃ (cov : Bool) (d : Nat), s18 = .bool cov ∧ s19 = .int .i64 d ∧ i < d ∧ d ≤ n ∧ Hid (cov = true ↔ CovTo F L i d (F i))) (fun _ s19 => n - (intOf s19).toNat)
            case atStart => exact ⟨false, i + 1, rfl, by go_num, by omega, by omega, hid (covTo_start F L i (F i))⟩
            case round =>
              obtain ⟨cov, d, rfl, rfl, hid1, hdn, HC⟩ := hrel
              by_cases hgo : d < n ∧ cov = false
              · obtain ⟨hd, rfl⟩ := hgo
                have q0 : wr.cell? ⟨b0, o0 + d, none⟩ = some (.int .u32 (F d)) := (HB.out.cell (p := ⟨b0, o0 + d, none⟩) l0).trans (R0.out d hd)
                have q1 : wr.cell? ⟨b1, o1 + d, none⟩ = some (.int .u32 (L d)) := (HB.out.cell (p := ⟨b1, o1 + d, none⟩) l1).trans (R1.out d hd)
                have qb := (HG.out.2 d hd).2
                obtain ⟨v1, v2, v3, v4⟩ := HU.out d hd
                have d0 : (0 : Int) ≤ (d : Int) := by omega
                have d1 : (d : Int) < (n : Int) := by omega
                by_cases hcv : F d ≤ (F i) ∧ (F i) ≤ L d
                · have hb : inB F L i n d = true := by simp [inB]; omega
                  have HC' := hid (covTo_hit hid1 hcv)
                  obtain ⟨hv1, hv2⟩ := hcv
                  rw [hb] at qb
                  go_wp2
                  go_round
                  case rel => exact ⟨true, d + 1, rfl, by go_num, by omega, by omega, HC'⟩
                  case measure => (simp [intOf] <;> omega)
                · have HC' := hid (covTo_miss HC.out hcv)
                  by_cases hv1 : F d ≤ (F i)
                  · have hb : inB F L i n d = true := by simp [inB]; omega
                    have hv2 : ¬ (F i) ≤ L d := fun h => hcv ⟨hv1, h⟩
                    rw [hb] at qb
                    clear hcv
                    go_wp2
                    go_round
                    case rel => exact ⟨false, d + 1, rfl, by go_num, by omega, by omega, HC'⟩
                    case measure => (simp [intOf] <;> omega)
                  · clear hcv
                    generalize inB F L i n d = bb at *
                    cases bb with
                    | true =>
                      go_wp2
                      go_round
                      case rel => exact ⟨false, d + 1, rfl, by go_num, by omega, by omega, HC'⟩
                      case measure => (simp [intOf] <;> omega)
                    | false =>
                      go_wp2
                      go_round
                      case rel => exact ⟨false, d + 1, rfl, by go_num, by omega, by omega, HC'⟩
                      case measure => (simp [intOf] <;> omega)
              · cases cov with
                | true =>
                  have HB' := hid (HK.out (.inl (covTo_cov (HC.out.1 rfl) hdn)))
                  clear hgo
                  by_cases hd : d < n
                  · go_wp2
                    go_round
                    case rel => exact ⟨best, found, 0 + 1, rfl, rfl, by go_num, by omega, hx0, hx1, HB'⟩
                    case measure => (simp [intOf] <;> omega)
                  · go_wp2
                    go_round
                    case rel => exact ⟨best, found, 0 + 1, rfl, rfl, by go_num, by omega, hx0, hx1, HB'⟩
                    case measure => (simp [intOf] <;> omega)
                | false =>
                  have hd : n = d := by have : ¬ d < n := fun h => hgo ⟨h, rfl⟩; omega
                  subst hd
                  clear hgo
                  have HN := hid (covTo_not HC.out)
                  cases found with
                  | false =>
                    have HB' := hid (HT.out HN.out (.inl rfl))
                    go_wp2
                    go_round
                    case rel => exact ⟨F i, true, 0 + 1, rfl, rfl, by go_num, by omega, by omega, by omega, HB'⟩
                    case measure => (simp [intOf] <;> omega)
                  | true =>
                    by_cases hlt : (F i) < best
                    · have HB' := hid (HT.out HN.out (.inr hlt))
                      go_wp2
                      go_round
                      case rel => exact ⟨F i, true, 0 + 1, rfl, rfl, by go_num, by omega, by omega, by omega, HB'⟩
                      case measure => (simp [intOf] <;> omega)
                    · have HB' := hid (HK.out (.inr ⟨rfl, by omega⟩))
                      go_wp2
                      go_round
                      case rel => exact ⟨best, true, 0 + 1, rfl, rfl, by go_num, by omega, hx0, hx1, HB'⟩
                      case measure => (simp [intOf] <;> omega)
          | succ c =>
            have hcn' : c < n := by omega
            have ec : ((c + 1 : Nat) : Int) - 1 = (c : Int) := by omega
            rw [ec]
            have p1 : wr.cell? ⟨b1, o1 + c, none⟩ = some (.int .u32 (L c)) := (HB.out.cell (p := ⟨b1, o1 + c, none⟩) l1).trans (R1.out c hcn')
            have pb := (HG.out.2 c hcn').2
            obtain ⟨t1, t2, t3, t4⟩ := HU.out c hcn'
            have c0' : (0 : Int) ≤ (c : Int) := by omega
            have c1' : (c : Int) < (n : Int) := by omega
            by_cases hin : i < c ∧ F c ≤ L i
            · have hb : inB F L i n c = true := by simp [inB]; omega
              rw [hb] at pb
              by_cases hl : L c < L i
              · have HK : Hid (Cov n F L i (L c + 1) ∨ (found = true ∧ best ≤ L c + 1) → Best n F L i (c + 1 + 1) best found) := fun h => best_keep HBest.out (fun q => by omega) (fun d hd _ _ _ _ => (by have e : d = c := (by omega); subst e; exact h))
                have hmo := HWF.out.mono i c (by omega) hcn'
                have hlc := HWF.out.le c hcn'
                have HT : Hid (¬ Cov n F L i (L c + 1) → (found = false ∨ L c + 1 < best) → Best n F L i (c + 1 + 1) (L c + 1) true) := fun h h' => best_take HBest.out (by omega) (by omega) h h' (fun q => by omega) (fun d hd => (by have e : d = c := (by omega); subst e; rfl))
                go_wp2
                go_loop [18, 19] (fun s18 s19 => ∃ (cov : Bool) (d : Nat), s18 = .bool cov ∧ s19 = .int .i64 d ∧ i < d ∧ d ≤ n ∧ Hid (cov = true ↔ CovTo F L i d (L c + 1))) (fun _ s19 => n - (intOf s19).toNat)
                case atStart => exact ⟨false, i + 1, rfl, by go_num, by omega, by omega, hid (covTo_start F L i (L c + 1))⟩
                case round =>
                  obtain ⟨cov, d, rfl, rfl, hid1, hdn, HC⟩ := hrel
                  by_cases hgo : d < n ∧ cov = false
                  · obtain ⟨hd, rfl⟩ := hgo
                    have q0 : wr.cell? ⟨b0, o0 + d, none⟩ = some (.int .u32 (F d)) := (HB.out.cell (p := ⟨b0, o0 + d, none⟩) l0).trans (R0.out d hd)
                    have q1 : wr.cell? ⟨b1, o1 + d, none⟩ = some (.int .u32 (L d)) := (HB.out.cell (p := ⟨b1, o1 + d, none⟩) l1).trans (R1.out d hd)
                    have qb := (HG.out.2 d hd).2
                    obtain ⟨v1, v2, v3, v4⟩ := HU.out d hd
                    have d0 : (0 : Int) ≤ (d : Int) := by omega
                    have d1 : (d : Int) < (n : Int) := by omega
                    by_cases hcv : F d ≤ (L c + 1) ∧ (L c + 1) ≤ L d
                    · have hb : inB F L i n d = true := by simp [inB]; omega
                      have HC' := hid (covTo_hit hid1 hcv)
                      obtain ⟨hv1, hv2⟩ := hcv
                      rw [hb] at qb
                      go_wp2
                      go_round
                      case rel => exact ⟨true, d + 1, rfl, by go_num, by omega, by omega, HC'⟩
                      case measure => (simp [intOf] <;> omega)
                    · have HC' := hid (covTo_miss HC.out hcv)
                      by_cases hv1 : F d ≤ (L c + 1)
                      · have hb : inB F L i n d = true := by simp [inB]; omega
                        have hv2 : ¬ (L c + 1) ≤ L d := fun h => hcv ⟨hv1, h⟩
                        rw [hb] at qb
                        clear hcv
                        go_wp2
                        go_round
                        case rel => exact ⟨false, d + 1, rfl, by go_num, by omega, by omega, HC'⟩
                        case measure => (simp [intOf] <;> omega)
                      · clear hcv
                        generalize inB F L i n d = bb at *
                        cases bb with
                        | true =>
                          go_wp2
                          go_round
                          case rel => exact ⟨false, d + 1, rfl, by go_num, by omega, by omega, HC'⟩
                          case measure => (simp [intOf] <;> omega)
                        | false =>
                          go_wp2
                          go_round
                          case rel => exact ⟨false, d + 1, rfl, by go_num, by omega, by omega, HC'⟩
                          case measure => (simp [intOf] <;> omega)
                  · cases cov with
                    | true =>
                      have HB' := hid (HK.out (.inl (covTo_cov (HC.out.1 rfl) hdn)))
                      clear hgo
                      by_cases hd : d < n
                      · go_wp2
                        go_round
                        case rel => exact ⟨best, found, c + 1 + 1, rfl, rfl, by go_num, by omega, hx0, hx1, HB'⟩
                        case measure => (simp [intOf] <;> omega)
                      · go_wp2
                        go_round
                        case rel => exact ⟨best, found, c + 1 + 1, rfl, rfl, by go_num, by omega, hx0, hx1, HB'⟩
                        case measure => (simp [intOf] <;> omega)
                    | false =>
                      have hd : n = d := by have : ¬ d < n := fun h => hgo ⟨h, rfl⟩; omega
                      subst hd
                      clear hgo
                      have HN := hid (covTo_not HC.out)
                      cases found with
                      | false =>
                        have HB' := hid (HT.out HN.out (.inl rfl))
                        go_wp2
                        go_round
                        case rel => exact ⟨L c + 1, true, c + 1 + 1, rfl, rfl, by go_num, by omega, by omega, by omega, HB'⟩
                        case measure => (simp [intOf] <;> omega)
                      | true =>
                        by_cases hlt : (L c + 1) < best
                        · have HB' := hid (HT.out HN.out (.inr hlt))
                          go_wp2
                          go_round
                          case rel => exact ⟨L c + 1, true, c + 1 + 1, rfl, rfl, by go_num, by omega, by omega, by omega, HB'⟩
                          case measure => (simp [intOf] <;> omega)
                        · have HB' := hid (HK.out (.inr ⟨rfl, by omega⟩))
                          go_wp2
                          go_round
                          case rel => exact ⟨best, true, c + 1 + 1, rfl, rfl, by go_num, by omega, hx0, hx1, HB'⟩
                          case measure => (simp [intOf] <;> omega)
              · have HB' := hid (best_keep HBest.out (fun q => by omega) (fun d hd _ _ _ h5 => (by have e : d = c := (by omega); subst e; exact absurd h5 hl)))
                go_wp2
                go_round
                case rel => exact ⟨best, found, c + 1 + 1, rfl, rfl, by go_num, by omega, hx0, hx1, HB'⟩
                case measure => (simp [intOf] <;> omega)
            · have hb : inB F L i n c = false := by simp [inB]; omega
              rw [hb] at pb
              have HB' := hid (best_keep HBest.out (fun q => by omega) (fun d hd h1 _ h4 h5 => (by have e : d = c := (by omega); subst e; exact absurd ⟨h1, h4⟩ hin)))
              clear hin
              go_wp2
              go_round
              case rel => exact ⟨best, found, c + 1 + 1, rfl, rfl, by go_num, by omega, hx0, hx1, HB'⟩
              case measure => (simp [intOf] <;> omega)
        · have : cc = n + 1 := by omega
          subst this
          have HA := hid (best_ans HBest.out (HWF.out.le i hi))
          go_wp2
          go_ret
          exact ⟨⟨best, rfl, HA.out⟩, HB.out⟩

end Go.Proofs.Qxb6605806a
