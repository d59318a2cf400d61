/-
  children and its iterator.
-/
import Derived.Test.Qxb6605806aSearch
import Derived.RangeFuncNested
import Derived.RangeFuncBound
import Derived.RangeFuncCalls
import Derived.RangeFuncLeaves
import Derived.RangeFuncBox
import Derived.Shelf.Abstract
import Derived.OwnWalkIn
import Derived.TacticsInMore
import Derived.LoopNIn
import Derived.LoopIn
import Derived.Sort.QuietIn
import Derived.Stop.RegionWithIn
namespace Go.Proofs.Qxb6605806a
open Go.RowKit Go.Shelf
set_option linter.unusedVariables false
set_option linter.unusedSimpArgs false

/-- Blocks outside X lie as they lay. -/
def KeepX (X : Nat → Prop) (A B : World) : Prop := A.heap.size ≤ B.heap.size ∧ ∀ k, k < A.heap.size → ¬ X k → B.heap[k]? = A.heap[k]?

theorem KeepX.refl (X : Nat → Prop) (A : World) : KeepX X A A := ⟨Nat.le_refl _, fun _ _ _ => rfl⟩
theorem KeepX.trans {X : Nat → Prop} {A B C : World} (h : KeepX X A B) (k : KeepX X B C) : KeepX X A C :=
  ⟨Nat.le_trans h.1 k.1, fun i hi hx => (k.2 i (Nat.lt_of_lt_of_le hi h.1) hx).trans (h.2 i hi hx)⟩
theorem KeepX.below {X : Nat → Prop} {A B : World} {n : Nat} (h : Below n A B) (hn : A.heap.size ≤ n) : KeepX X A B := ⟨h.size, fun k hk _ => h.block k (by omega)⟩

/-- The number in the box that a pointer leads to. -/
def boxInt (v : Value) (w : World) : Nat :=
  match v with
  | .pointer (some a) => match w.cell? a with
    | some (.int _ x) => x.toNat
    | _ => 0
  | _ => 0

theorem boxInt_of {w : World} {b : Nat} {k : IntKind} {x : Int} (h : w.cell? ⟨b, 0, none⟩ = some (.int k x)) : boxInt (.pointer (some ⟨b, 0, none⟩)) w = x.toNat := by
  unfold boxInt
  simp [h]

theorem iter_round {X : Nat → Prop} {W W3 : World} {bj q : Nat} {o : Obj} (v : Value) (HK : KeepX X W W3) (hb : W.heap.size ≤ bj) :
    Boxed ((((W3.alloc o).drewN q).setCell ⟨bj, 0, none⟩ v).alloc (.cells #[v] 3)) (W3.heap.size + 1) 3 v ∧ Below W.heap.size W3 ((((W3.alloc o).drewN q).setCell ⟨bj, 0, none⟩ v).alloc (.cells #[v] 3)) ∧
    KeepX X W ((((W3.alloc o).drewN q).setCell ⟨bj, 0, none⟩ v).alloc (.cells #[v] 3)) := by
  have hbel : Below W.heap.size W3 ((((W3.alloc o).drewN q).setCell ⟨bj, 0, none⟩ v).alloc (.cells #[v] 3)) := by
    have h1 : Below W.heap.size W3 (W3.alloc o) := (Below.refl _ W3).alloc HK.1 o
    have h2 := (below_drewN h1 q).setCell (p := ⟨bj, 0, none⟩) hb v
    exact h2.alloc (by have := HK.1; have h3 := h2.size; omega) _
  refine ⟨?_, hbel, ⟨Nat.le_trans HK.1 hbel.size, fun k hk hx => (hbel.block k hk).trans (HK.2 k hk hx)⟩⟩
  have h := Boxed.new (((W3.alloc o).drewN q).setCell ⟨bj, 0, none⟩ v) 3 v
  have e : (((W3.alloc o).drewN q).setCell ⟨bj, 0, none⟩ v).heap.size = W3.heap.size + 1 := by
    rw [World.size_setCell]
    show (W3.alloc o).heap.size = _
    exact World.size_alloc _ _
  rwa [e] at h

theorem iter_last {X : Nat → Prop} {W W3 : World} {bj : Nat} {o : Obj} (v : Value) (HK : KeepX X W W3) (hb : W.heap.size ≤ bj) :
    Boxed (((W3.setCell ⟨bj, 0, none⟩ v).alloc o).alloc (.cells #[v] 3)).drew (W3.heap.size + 1) 3 v ∧ Below W.heap.size W3 (((W3.setCell ⟨bj, 0, none⟩ v).alloc o).alloc (.cells #[v] 3)).drew ∧
    KeepX X W (((W3.setCell ⟨bj, 0, none⟩ v).alloc o).alloc (.cells #[v] 3)).drew := by
  have hbel : Below W.heap.size W3 (((W3.setCell ⟨bj, 0, none⟩ v).alloc o).alloc (.cells #[v] 3)).drew := by
    have h1 : Below W.heap.size W3 (W3.setCell ⟨bj, 0, none⟩ v) := (Below.refl _ W3).setCell (p := ⟨bj, 0, none⟩) hb v
    have h2 := h1.alloc (Nat.le_trans HK.1 h1.size) o
    exact (h2.alloc (Nat.le_trans HK.1 h2.size) _).drew
  refine ⟨?_, hbel, ⟨Nat.le_trans HK.1 hbel.size, fun k hk hx => (hbel.block k hk).trans (HK.2 k hk hx)⟩⟩
  have h := Boxed.new ((W3.setCell ⟨bj, 0, none⟩ v).alloc o) 3 v
  rw [World.size_alloc, World.size_setCell] at h
  exact h

set_option maxRecDepth 100000 in
set_option maxHeartbeats 2000000 in
theorem iter27 (m l S n i bi bn : Nat) (F L Pa : Nat → Int) (W : World) (X : Nat → Prop) (J : Nat → World → Prop) (Jx : World → Prop) (hm : 1 ≤ m) (hn : n ≤ 4096) (hi : i < n) (hmono : ∀ a b, a ≤ b → b < n → F a ≤ F b)
    (hbi : Boxed W bi 3 (.int .i64 i)) (hbn : Boxed W bn 47 (.slice (some ⟨S, 0, none⟩) n n)) (hs : SpansAt W S n F L Pa) (hXi : ¬ X bi) (hXn : ¬ X bn) (hXS : ¬ X S) (hXb : ∀ k, W.heap.size ≤ k → ¬ X k)
    (hJ : ∀ j A B, J j A → Below W.heap.size A B → J j B) (hJx : ∀ A B, Jx A → Below W.heap.size A B → Jx B)
    (hY : ∀ j W1, J j W1 → i < j → j < n → Pa j = (i : Int) → YieldAt Fence.wide (m - 1) Try.prog l #[.pointer (some ⟨S, j * 7, none⟩)] W1 fun e W' =>
      (e = .returned (.bool true) ∧ (∀ j', j < j' → j' ≤ n → (∀ d, j < d → d < j' → F d ≤ L j) → (j' < n → L j < F j') → J j' W') ∧ KeepX X W1 W') ∨ (e = .returned (.bool false) ∧ Jx W'))
    (h0 : J (i + 1) W) :
    CallsIn Fence.wide m Try.prog 27 #[.func (.yield l) #[] #[], .pointer (some ⟨bi, 0, none⟩), .pointer (some ⟨bn, 0, none⟩)] W fun e W' => (∃ v, e = .returned v) ∧ ((∃ j, i < j ∧ j ≤ n ∧ ¬ (j < n ∧ Pa j = (i : Int)) ∧ J j W') ∨ Jx W') := by
  have HJ := hid hJ
  have HJX := hid hJx
  have HY := hid hY
  have H0 := hid h0
  have HM := hid hmono
  have HS := hid hs
  have HBI := hid hbi
  have HBN := hid hbn
  have ci := hbi.cell
  have cn := hbn.cell
  have hXB := hid hXb
  clear hJ hJx hY h0 hmono hs hXb hbi hbn
  refine callsIn_of_wp Try.func27 rfl trivial ?_ rfl
  simp only [Try.ntmps27, List.size_toArray, List.length_cons, List.length_nil, Nat.reduceAdd, Nat.reduceSub, Array.replicate_succ, Array.replicate_zero, List.push_toArray, List.append_toArray, List.nil_append, List.cons_append]
  gi_wp2
  gi_loopw [4, 5] (fun s4 _ wr => ∃ (j bj : Nat), s4 = .pointer (some ⟨bj, 0, none⟩) ∧ i < j ∧ j ≤ n ∧ W.heap.size ≤ bj ∧ Hid (Boxed wr bj 3 (.int .i64 j)) ∧ Hid (KeepX X W wr) ∧ Hid (J j wr)) (fun s4 _ wr => n - boxInt s4 wr)
  case atStart =>
    refine ⟨i + 1, W.heap.size, rfl, by omega, by omega, Nat.le_refl _, hid ?_, hid (KeepX.below ((Below.refl _ W).alloc (Nat.le_refl _) _) (Nat.le_refl _)), hid (HJ.out _ _ _ H0.out ((Below.refl _ W).alloc (Nat.le_refl _) _))⟩
    have := Boxed.new W 3 (.int .i64 ((i : Int) + 1))
    simpa using this
  case round =>
    obtain ⟨j, bj, rfl, hij, hjn, hbj, HBJ, HK, HJJ⟩ := hrel
    have ci' : wr.cell? ⟨bi, 0, none⟩ = some (.int .i64 i) := (World.cell?_of_block (w := W) (a := ⟨bi, 0, none⟩) (HK.out.2 bi HBI.out.lt hXi)).trans ci
    have cn' : wr.cell? ⟨bn, 0, none⟩ = some (.slice (some ⟨S, 0, none⟩) n n) := (World.cell?_of_block (w := W) (a := ⟨bn, 0, none⟩) (HK.out.2 bn HBN.out.lt hXn)).trans cn
    have HS' := hid (HS.out.later (HK.out.2 S HS.out.1 hXS))
    have cj := HBJ.out.cell
    clear ci cn
    by_cases hj : j < n
    · have pj := (HS'.out.2 j hj).2.2
      have j0 : (0 : Int) ≤ (j : Int) := by omega
      have j1 : (j : Int) < (n : Int) := by omega
      by_cases hp : Pa j = (i : Int)
      · have hp' : (Pa j == (i : Int)) = true := by simpa using hp
        gi_wp2
        gi_quiet (fail)
        obtain ⟨fn, tmps, assign, body, hy, hR⟩ := HY.out j (wr.drewN nq) (HJ.out _ _ _ HJJ.out (below_drewN (Below.refl _ _) _)) hij hj hp
        gi_wp2
        refine hR.mono ?_
        rintro e W3 (⟨rfl, hJ3, hk3⟩ | ⟨rfl, hJx3⟩)
        · have HK3 := hid (HK.out.trans ((KeepX.below (below_drewN (Below.refl _ _) _) (Nat.le_refl _)).trans hk3))
          have HBJ3 : Hid (Boxed W3 bj 3 (.int .i64 j)) := (hk3.2 bj HBJ.out.lt (hXB.out bj hbj)).trans HBJ.out
          have HJ3 := hid hJ3
          have ci3 : W3.cell? ⟨bi, 0, none⟩ = some (.int .i64 i) := (World.cell?_of_block (w := wr) (a := ⟨bi, 0, none⟩) (hk3.2 bi (Nat.lt_of_lt_of_le HBI.out.lt HK.out.1) hXi)).trans ci'
          have cn3 : W3.cell? ⟨bn, 0, none⟩ = some (.slice (some ⟨S, 0, none⟩) n n) := (World.cell?_of_block (w := wr) (a := ⟨bn, 0, none⟩) (hk3.2 bn (Nat.lt_of_lt_of_le HBN.out.lt HK.out.1) hXn)).trans cn'
          have HS3 := hid (HS.out.later (HK3.out.2 S HS.out.1 hXS))
          have cj3 := HBJ3.out.cell
          have hsz3 : W.heap.size ≤ W3.heap.size := HK3.out.1
          clear ci' cn' cj pj hk3 hJ3 hy hR
          have lj3 : bj < W3.heap.size := HBJ3.out.lt
          have ln3 : bn < W3.heap.size := Nat.lt_of_lt_of_le HBN.out.lt hsz3
          have fj3 := HBJ3.out.frozen
          by_cases hlast : j + 1 < n
          · have hne : ¬ n = j + 1 := by omega
            have hcon := search28 S n (n - (j + 1)) j W3.heap.size bn bj F L Pa ((W3.alloc (.cells #[.slice (some ⟨S, (j + 1) * 7, none⟩) (n - (j + 1)) (n - (j + 1))] 38)).drew) hn hj HM.out (HS3.out.later (Below.heap_alloc _ _ _ HS3.out.1)) (by simp) (cell_later (((Below.refl _ W3).alloc (Nat.le_refl _) _).drew) cn3) (cell_later (((Below.refl _ W3).alloc (Nat.le_refl _) _).drew) cj3)
            gi_wp2
            gi_region_with (refine ⟨trivial, ?_⟩; gi_at_call 28; refine ((callsIn_wide (n := m - 1)).2 hcon).mono ?_; rintro e W4 ⟨⟨r, rfl, hr1, hr2, hr3⟩, q4, rfl⟩)
            all_goals gi_wp2
            all_goals
              obtain ⟨r1, r2, r3⟩ := iter_round (q := 1 + q4) (o := .cells #[.slice (some ⟨S, (j + 1) * 7, none⟩) (n - (j + 1)) (n - (j + 1))] 38) (.int .i64 ((j : Int) + (1 + (r : Int)))) HK3.out hbj
              have er : ((j : Int) + (1 + (r : Int))) = ((j + 1 + r : Nat) : Int) := by omega
              go_roundw
              case rel =>
                exact ⟨j + 1 + r, W3.heap.size + 1, rfl, by omega, by omega, by omega, hid (by rw [← er]; exact r1), hid r3, hid (HJ.out _ _ _ (HJ3.out (j + 1 + r) (by omega) hr1 hr2 hr3) r2)⟩
              case measure =>
                rw [boxInt_of r1.cell, boxInt_of HBJ.out.cell]
                omega
          · have hne : n = j + 1 := by omega
            gi_wp2
            gi_region_with (refine ⟨trivial, ?_⟩; gi_at_call 28; refine ((callsIn_wide (n := m - 1)).2 (search28_zero _ _)).mono ?_; rintro e W4 ⟨rfl, rfl⟩)
            all_goals gi_wp2
            all_goals
              obtain ⟨r1, r2, r3⟩ := iter_last (o := .cells #[.slice (some ⟨S, 0, none⟩) 0 0] 38) (.int .i64 ((j : Int) + 1)) HK3.out hbj
              have er : ((j : Int) + 1) = ((j + 1 : Nat) : Int) := by omega
              go_roundw
              case rel =>
                exact ⟨j + 1, W3.heap.size + 1, rfl, by omega, by omega, by omega, hid (by rw [← er]; exact r1), hid r3, hid (HJ.out _ _ _ (HJ3.out (j + 1) (by omega) (by omega) (fun d h1 h2 => by omega) (fun h => by omega)) r2)⟩
              case measure =>
                rw [boxInt_of r1.cell, boxInt_of HBJ.out.cell]
                omega
        · gi_wp2
          refine bodyPost_ret (results_none rfl _ _ _) rfl ?_
          exact ⟨⟨_, rfl⟩, .inr hJx3⟩
      · have hp' : (Pa j == (i : Int)) = false := by simpa using hp
        gi_wp2
        gi_quiet (fail)
        gi_wp2
        go_end0
        exact ⟨⟨_, rfl⟩, .inl ⟨j, hij, hjn, fun h => hp h.2, HJ.out _ _ _ HJJ.out (below_drewN (Below.refl _ _) _)⟩⟩
    · have hj' : n ≤ j := by omega
      have hd : decide (j < n) = false := by simpa using hj'
      gi_wp2
      gi_quiet (fail)
      gi_wp2
      go_end0
      exact ⟨⟨_, rfl⟩, .inl ⟨j, hij, hjn, fun h => by omega, HJ.out _ _ _ HJJ.out (below_drewN (Below.refl _ _) _)⟩⟩

end Go.Proofs.Qxb6605806a
