/-
  THE PLAIN LAW: the text of an element tells index and cause.
-/
import Derived.Lib.ItoaNum
namespace Go.Proofs.Qxb6605806aFmt
open Go

/-- The text of the element at i with cause s. -/
def tText (i : Int) (s : List UInt8) : List UInt8 := 91 :: (Lib.itoa i ++ 93 :: 58 :: 32 :: s)

def decVal (l : List UInt8) : Nat := l.foldl (fun a c => a * 10 + (c.toNat - 48)) 0

theorem digit_val (u : Nat) (h : u < 10) : (UInt8.ofNat (48 + u)).toNat = 48 + u := by
  rw [UInt8.toNat_ofNat']; omega

theorem decVal_decDigits (u : Nat) : decVal (Lib.decDigits u) = u := by
  induction u using Nat.strongRecOn with
  | _ u ih =>
    by_cases h : u < 10
    · rw [Lib.decDigits, dif_pos h]
      simp only [decVal, List.foldl]
      rw [digit_val u h]; omega
    · rw [Lib.decDigits, dif_neg h]
      have := ih (u / 10) (by omega)
      unfold decVal at this ⊢
      rw [List.foldl_append, this]
      simp only [List.foldl]
      rw [digit_val (u % 10) (by omega)]; omega

theorem decDigits_bound (u : Nat) : ∀ c ∈ Lib.decDigits u, 48 ≤ c.toNat ∧ c.toNat ≤ 57 := by
  induction u using Nat.strongRecOn with
  | _ u ih =>
    intro c hc
    by_cases h : u < 10
    · rw [Lib.decDigits, dif_pos h] at hc
      simp only [List.mem_singleton] at hc
      subst hc
      rw [digit_val u h]; omega
    · rw [Lib.decDigits, dif_neg h, List.mem_append] at hc
      rcases hc with hc | hc
      · exact ih (u / 10) (by omega) c hc
      · simp only [List.mem_singleton] at hc
        subst hc
        rw [digit_val (u % 10) (by omega)]; omega

theorem decDigits_inj {u v : Nat} (h : Lib.decDigits u = Lib.decDigits v) : u = v := by
  rw [← decVal_decDigits u, h, decVal_decDigits]

theorem itoa_bound (n : Int) : ∀ c ∈ Lib.itoa n, c ≠ 93 := by
  intro c hc e
  subst e
  unfold Lib.itoa at hc
  split at hc
  · rcases List.mem_cons.1 hc with hc | hc
    · exact absurd hc (by decide)
    · have := (decDigits_bound _ _ hc).2
      exact absurd this (by decide)
  · have := (decDigits_bound _ _ hc).2
    exact absurd this (by decide)

theorem not_minus {u : Nat} {l : List UInt8} (h : Lib.decDigits u = 45 :: l) : False := by
  have := (decDigits_bound u 45 (by rw [h]; exact List.mem_cons_self)).1
  exact absurd this (by decide)

theorem itoa_inj {m n : Int} (h : Lib.itoa m = Lib.itoa n) : m = n := by
  unfold Lib.itoa at h
  by_cases hm : m < 0
  · by_cases hn : n < 0
    · rw [if_pos hm, if_pos hn] at h
      have := decDigits_inj (List.cons.inj h).2
      omega
    · rw [if_pos hm, if_neg hn] at h
      exact (not_minus h.symm).elim
  · by_cases hn : n < 0
    · rw [if_neg hm, if_pos hn] at h
      exact (not_minus h).elim
    · rw [if_neg hm, if_neg hn] at h
      have := decDigits_inj h
      omega

theorem split_at {a b r s : List UInt8} (ha : ∀ c ∈ a, c ≠ 93) (hb : ∀ c ∈ b, c ≠ 93) (h : a ++ 93 :: r = b ++ 93 :: s) : a = b ∧ r = s := by
  induction a generalizing b with
  | nil =>
    cases b with
    | nil => exact ⟨rfl, (List.cons.inj h).2⟩
    | cons y b =>
      have := (List.cons.inj h).1
      exact absurd this.symm (hb y List.mem_cons_self)
  | cons x a ih =>
    cases b with
    | nil =>
      have := (List.cons.inj h).1
      exact absurd this (ha x List.mem_cons_self)
    | cons y b =>
      have h1 := List.cons.inj h
      obtain ⟨e1, e2⟩ := ih (fun c hc => ha c (List.mem_cons_of_mem _ hc)) (fun c hc => hb c (List.mem_cons_of_mem _ hc)) h1.2
      exact ⟨by rw [h1.1, e1], e2⟩

theorem tText_inj {i j : Int} {s t : List UInt8} (h : tText i s = tText j t) : i = j ∧ s = t := by
  unfold tText at h
  obtain ⟨e1, e2⟩ := split_at (itoa_bound i) (itoa_bound j) (List.cons.inj h).2
  exact ⟨itoa_inj e1, (List.cons.inj (List.cons.inj e2).2).2⟩

theorem tText_beq (i j : Int) (s t : List UInt8) : (tText i s == tText j t) = (i == j && s == t) := by
  by_cases h : tText i s = tText j t
  · obtain ⟨rfl, rfl⟩ := tText_inj h
    simp
  · have h1 : (tText i s == tText j t) = false := by simpa using h
    rw [h1]
    by_cases e1 : i = j
    · subst e1
      have : s ≠ t := fun e => h (by rw [e])
      simp [this]
    · simp [e1]

end Go.Proofs.Qxb6605806aFmt
