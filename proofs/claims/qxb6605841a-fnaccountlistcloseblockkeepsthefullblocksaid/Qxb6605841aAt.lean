/-
  column.at and accountList.at.
-/
import Derived.Test.Qxb6605841aClose
namespace Go.Proofs.Qxb6605841a
open Go.RowKit
set_option linter.unusedVariables false
set_option linter.unusedSimpArgs false

set_option maxRecDepth 100000 in
set_option maxHeartbeats 2000000 in
theorem col36 (B base ge K b t : Nat) (f : Nat → ByteArray) (u p v n : Value) (w : World) (h : ListAt w B u p v (.slice (some ⟨ge, 0, none⟩) K K) n) (he : EndsAt w f base ge K K) (hK : K ≤ 16) (hb : b < K) (ht : t < 4096) :
    Calls Try.prog 36 #[.pointer (some ⟨B, 3, none⟩), .int .i64 ((b * 4096 + t : Nat) : Int)] w fun e' w' => e' = .returned (.int .u32 ((tot f (b * 4096) (t + 1) : Nat) : Int)) ∧ w = w' := by
  obtain ⟨x, _, x2, x3, x4⟩ := (he.2 b hb).2.2 hb
  have c3 := h.c3
  have y0 := x4 t ht
  clear x4 h he
  have e1 : ((b * 4096 + t : Nat) : Int) / 4096 = (b : Int) := by omega
  have e2 : ((b * 4096 + t : Nat) : Int) % 4096 = (t : Int) := by omega
  have e3 : (0 : Int) ≤ ((b * 4096 + t : Nat) : Int) := by omega
  have e4 : ((b * 4096 + t : Nat) : Int) ≤ 65536 := by omega
  generalize ((b * 4096 + t : Nat) : Int) = I at *
  have b0 : (0 : Int) ≤ (b : Int) := by omega
  have b1 : (b : Int) < (K : Int) := by omega
  have t0 : (0 : Int) ≤ (t : Int) := by omega
  have t1 : (t : Int) < 4096 := by omega
  go_enter Try.func36, Try.ntmps36
  go_wp2
  go_ret
  exact ⟨rfl, rfl⟩

set_option maxRecDepth 100000 in
set_option maxHeartbeats 2000000 in
theorem at28g (B g K capf b t cap' lo hi : Nat) (I J : Int) (hJ : I - 1 = J) (a : Option Addr) (S R : ByteArray) (p e n : Value) (w : World) (h : ListAt w B (.slice (some ⟨g, 0, none⟩) K capf) p (.slice a 0 cap') e n)
    (ha : a = none ∨ ∃ x, a = some x ∧ cap' ≠ 0) (hg : w.cell? ⟨g, b, none⟩ = some (.string S)) (hK : K ≤ 16) (hb : b < K)
    (e1 : I / 4096 = (b : Int)) (e2 : I % 4096 = (t : Int)) (e3 : 0 ≤ I) (e4 : I ≤ 65536) (hR : S.extract lo hi = R) (h1 : lo ≤ hi) (h2 : hi ≤ S.size) (h3 : S.size ≤ 1048576) (h0 : t = 0 → lo = 0)
    (hc : Calls Try.prog 36 #[.pointer (some ⟨B, 3, none⟩), .int .i64 I] w.drew fun e' w' => e' = .returned (.int .u32 (hi : Int)) ∧ w.drew = w')
    (hc2 : 0 < t → Calls Try.prog 36 #[.pointer (some ⟨B, 3, none⟩), .int .i64 J] w.drew fun e' w' => e' = .returned (.int .u32 (lo : Int)) ∧ w.drew = w') :
    Calls Try.prog 28 #[.pointer (some ⟨B, 0, none⟩), .int .i64 I] w fun e' w' => e' = .returned (.string R) ∧ ∃ q, w' = w.drewN q := by
  have hstr := string_none B cap' a _ p _ n w h ha
  have c0 := h.c0
  have HR := hid hR
  clear h hR
  have b0 : (0 : Int) ≤ (b : Int) := by omega
  have b1 : (b : Int) < (K : Int) := by omega
  by_cases ht : 0 < t
  · have hcon3 := hc2 ht
    have t0 : (0 : Int) < (t : Int) := by omega
    clear hc2 h0
    go_enter Try.func28, Try.ntmps28
    go_wp2_with (first
      | (go_at_call 35; refine hstr.mono ?_; rintro e' w1 ⟨rfl, rfl⟩)
      | (go_at_call 36; fail))
    refine hcon3.mono ?_
    rintro e' w1 ⟨rfl, rfl⟩
    go_wp2_with (go_at_call 36; fail)
    refine hc.mono ?_
    rintro e' w1 ⟨rfl, rfl⟩
    go_wp2
    go_ret
    exact ⟨by rw [← HR.out]; rfl, 1, rfl⟩
  · obtain rfl : t = 0 := by omega
    obtain rfl := h0 rfl
    clear hc2 h0
    go_enter Try.func28, Try.ntmps28
    go_wp2_with (first
      | (go_at_call 35; refine hstr.mono ?_; rintro e' w1 ⟨rfl, rfl⟩)
      | (go_at_call 36; fail))
    refine hc.mono ?_
    rintro e' w1 ⟨rfl, rfl⟩
    go_wp2
    go_ret
    exact ⟨by rw [← HR.out]; rfl, 1, rfl⟩

theorem piece (f : Nat → ByteArray) (p : Nat) {t m : Nat} (ht : t < m) : (⟨(cat f p m).toArray⟩ : ByteArray).extract (tot f p t) (tot f p (t + 1)) = f (p + t) := by
  have h := cat_piece f p ht
  have ht' : tot f p (t + 1) - tot f p t = (f (p + t)).size := by simp [tot]
  rw [Lib.extract_eq, ht']
  show (⟨(List.take (f (p + t)).size (List.drop (tot f p t) (cat f p m))).toArray⟩ : ByteArray) = f (p + t)
  rw [h]

theorem cat_size (f : Nat → ByteArray) (p m : Nat) : (⟨(cat f p m).toArray⟩ : ByteArray).size = tot f p m := by
  rw [← cat_length]
  exact List.size_toArray

theorem at28 (B base ge g K capf b t cap' : Nat) (a : Option Addr) (f : Nat → ByteArray) (p n : Value) (w : World) (h : ListAt w B (.slice (some ⟨g, 0, none⟩) K capf) p (.slice a 0 cap') (.slice (some ⟨ge, 0, none⟩) K K) n)
    (ha : a = none ∨ ∃ x, a = some x ∧ cap' ≠ 0) (he : EndsAt w f base ge K K) (hg : w.cell? ⟨g, b, none⟩ = some (.string ⟨(cat f (b * 4096) 4096).toArray⟩)) (hK : K ≤ 16) (hb : b < K) (ht : t < 4096) (hs : tot f (b * 4096) 4096 ≤ 1048576) :
    Calls Try.prog 28 #[.pointer (some ⟨B, 0, none⟩), .int .i64 ((b * 4096 + t : Nat) : Int)] w fun e' w' => e' = .returned (.string (f (b * 4096 + t))) ∧ ∃ q, w' = w.drewN q := by
  have h1 : ListAt w.drew B (.slice (some ⟨g, 0, none⟩) K capf) p (.slice a 0 cap') (.slice (some ⟨ge, 0, none⟩) K K) n := h.later rfl
  have he1 : EndsAt w.drew f base ge K K := he.later ((Below.refl _ w).drew)
  refine at28g B g K capf b t cap' (tot f (b * 4096) t) (tot f (b * 4096) (t + 1)) _ _ rfl a _ _ p _ n w h ha hg hK hb (by omega) (by omega) (by omega) (by omega) (piece f (b * 4096) ht) (tot_le f _ (by omega)) ?_ ?_ ?_ (col36 B base ge K b t f _ p _ n w.drew h1 he1 hK hb ht) ?_
  · rw [cat_size]; exact tot_le f _ (by omega)
  · rw [cat_size]; exact hs
  · rintro rfl; rfl
  · intro h0
    have := col36 B base ge K b (t - 1) f _ p _ n w.drew h1 he1 hK hb (by omega)
    have e1 : ((b * 4096 + (t - 1) : Nat) : Int) = ((b * 4096 + t : Nat) : Int) - 1 := by omega
    have e2 : t - 1 + 1 = t := by omega
    rw [e1, e2] at this
    exact this

end Go.Proofs.Qxb6605841a
