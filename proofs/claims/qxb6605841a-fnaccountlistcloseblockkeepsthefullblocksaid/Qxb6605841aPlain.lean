/-
  PLAIN: sums of lengths and joined texts.
-/
import Derived.LoadGo2
namespace Go.Proofs.Qxb6605841a

/-- The bytes of m texts from the text at p on. -/
def tot (f : Nat → ByteArray) (p : Nat) : Nat → Nat
  | 0 => 0
  | m + 1 => tot f p m + (f (p + m)).size

/-- m texts from the text at p on, one after another. -/
def cat (f : Nat → ByteArray) (p : Nat) : Nat → List UInt8
  | 0 => []
  | m + 1 => cat f p m ++ (f (p + m)).data.toList

theorem cat_length (f : Nat → ByteArray) (p m : Nat) : (cat f p m).length = tot f p m := by
  induction m with
  | zero => rfl
  | succ m ih => simp only [cat, tot, List.length_append, ih, Array.length_toList]; rfl

theorem tot_add (f : Nat → ByteArray) (p m k : Nat) : tot f p (m + k) = tot f p m + tot f (p + m) k := by
  induction k with
  | zero => rfl
  | succ k ih => rw [← Nat.add_assoc]; simp only [tot, ih, Nat.add_assoc]

theorem tot_le (f : Nat → ByteArray) (p : Nat) {m k : Nat} (h : m ≤ k) : tot f p m ≤ tot f p k := by
  obtain ⟨d, rfl⟩ := Nat.exists_eq_add_of_le h
  rw [tot_add]; omega

theorem tot_in (f : Nat → ByteArray) {p m n : Nat} (h : p + m ≤ n) : tot f p m ≤ tot f 0 n := by
  obtain ⟨d, rfl⟩ := Nat.exists_eq_add_of_le h
  rw [tot_add, tot_add]
  simp only [Nat.zero_add]
  omega

theorem size_le (f : Nat → ByteArray) {j n : Nat} (h : j < n) : (f j).size ≤ tot f 0 n := by
  have := tot_in f (p := j) (m := 1) (n := n) (by omega)
  simpa [tot] using this

theorem cat_split (f : Nat → ByteArray) (p m k : Nat) : cat f p (m + k) = cat f p m ++ cat f (p + m) k := by
  induction k with
  | zero => simp [cat]
  | succ k ih => rw [← Nat.add_assoc]; simp only [cat, ih, List.append_assoc, Nat.add_assoc]

/-- The text at p + t lies between the sums. -/
theorem cat_piece (f : Nat → ByteArray) (p : Nat) {t m : Nat} (h : t < m) : ((cat f p m).drop (tot f p t)).take (f (p + t)).size = (f (p + t)).data.toList := by
  obtain ⟨d, rfl⟩ := Nat.exists_eq_add_of_lt h
  have e : t + d + 1 = t + (1 + d) := by omega
  rw [e, cat_split, ← cat_length, List.drop_left, cat_split]
  have : cat f (p + t) 1 = (f (p + t)).data.toList := by simp [cat]
  rw [this]
  have hl : (f (p + t)).size = (f (p + t)).data.toList.length := by rw [Array.length_toList]; rfl
  rw [hl, List.take_left]

end Go.Proofs.Qxb6605841a
