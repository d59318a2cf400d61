/-
  ZZcloseBlock, in the one form that the law wants.
-/
import Derived.Test.Qxb6605841aWraps
namespace Go.Proofs.Qxb6605841a
open Go.RowKit
set_option linter.unusedVariables false
set_option linter.unusedSimpArgs false

theorem heap_freeze_other (w : World) (p : Addr) (n : Nat) {k : Nat} (hk : k ≠ p.block) : (w.freeze p n).heap[k]? = w.heap[k]? := by
  unfold World.freeze
  split
  · rfl
  · simp only [Array.getElem?_modify]
    rw [if_neg (Ne.symm hk)]

theorem size_freeze (w : World) (p : Addr) (n : Nat) : (w.freeze p n).heap.size = w.heap.size := by
  unfold World.freeze
  split
  · rfl
  · simp

/-- What a list looks like behind closeBlock. -/
def Shut (w : World) (B K m : Nat) (xs : List Value) (e n : Value) : Prop :=
  ∃ g capf b cap', ListAt w B (.slice (some ⟨g, 0, none⟩) K capf) (.pointer (some ⟨B, 1, none⟩)) (.slice b 0 cap') e n ∧ m ≤ cap' ∧ cap' ≤ cap' ∧ (b = none ∨ ∃ x, b = some x ∧ cap' ≠ 0) ∧ ∀ j u, xs[j]? = some u → w.cell? ⟨g, j, none⟩ = some u

theorem shut19 (B base g k cap : Nat) (p v e n : Value) (xs : List Value) (l : List UInt8) (w : World) (h : ListAt w B (.slice (some ⟨g, 0, none⟩) k cap) p v e n)
    (hv : w.ownsRow (B + 1) 5 1 v l.length (Lib.byteCells l)) (hv0 : l = [] → v = .slice none 0 0) (hf : w.ownsRow base 9 1 (.slice (some ⟨g, 0, none⟩) k cap) k xs) (hBB : base ≤ B) (hm : l.length ≤ 1048576) (hk : k ≤ 15) :
    Calls Try.prog 19 #[.pointer (some ⟨B, 0, none⟩)] w fun e' w' => e' = .returned (.tuple #[]) ∧ (Shut w' B (k + 1) l.length (xs ++ [.string ⟨l.toArray⟩]) e n ∧ Below base w w' ∧ ∀ j, j < B → j ≠ g → w'.heap[j]? = w.heap[j]?) := by
  refine wrap19 B w ?_
  have fin : ∀ (W1 : World) (a : Option Addr) (m cap2 : Nat),
      (Calls Try.prog 35 #[.pointer (some ⟨B, 1, none⟩)] w fun e' w' => e' = .returned (.string ⟨l.toArray⟩) ∧ w' = W1) →
      ListAt W1 B (.slice (some ⟨g, 0, none⟩) k cap) p (.slice a m cap2) e n → W1.ownsRow base 9 1 (.slice (some ⟨g, 0, none⟩) k cap) k xs → Below base w W1 → W1.heap.size = w.heap.size → (l.length < cap2 → l ≠ []) → cap2 ≤ 9223372036854775807 →
      (∀ j, j < B → W1.heap[j]? = w.heap[j]?) →
      Calls Try.prog 29 #[.pointer (some ⟨B, 0, none⟩)] w fun e' w' => e' = .returned (.tuple #[]) ∧ (Shut w' B (k + 1) l.length (xs ++ [.string ⟨l.toArray⟩]) e n ∧ Below base w w' ∧ ∀ j, j < B → j ≠ g → w'.heap[j]? = w.heap[j]?) := by
    intro W1 a m cap2 hs h1 hf1 hb1 hsz1 hcl hcap hk1
    refine (close29 B base g k cap m cap2 a p e n xs l w W1 hs h1 hf1 hb1 hsz1 hBB hm (by omega) hcl hcap).mono ?_
    rintro e' w' ⟨he, ⟨full, b, cap', hl', hc', hb', ho', hn'⟩, hbel, hkep⟩
    refine ⟨he, ?_, hbel, fun j hj hjg => (hkep j (Nat.lt_trans hj h.lt) (by omega) hjg).trans (hk1 j hj)⟩
    rcases ho'.2 with ⟨e0, _⟩ | ⟨g', capf, cur, e0, _⟩
    · exact absurd e0 hn'
    · subst e0
      refine ⟨g', capf, b, cap', hl', hc', Nat.le_refl _, hb', fun j u hu => ?_⟩
      have := ho'.cells (g := g') rfl j u hu
      unfold Addr.add at this
      split at this
      · rename_i e; subst e; exact this
      · simpa using this
  by_cases h0 : l = []
  · have hv' := hv0 h0
    subst hv' h0
    exact fin w.drew none 0 0 (string_none B 0 none _ p e n w h (.inl rfl)) (h.later rfl) (owns_kept hf (fun _ _ => rfl)) ((Below.refl base w).drew) rfl (fun q => absurd q (Nat.not_lt_zero _)) (by omega) (fun _ _ => rfl)
  · rcases hv.2 with ⟨_, e0⟩ | ⟨gv, cap2, cur, e0, hgv, hcur, h1, h2, _⟩
    · exact absurd (List.length_eq_zero_iff.1 e0) h0
    · subst e0
      have hlt := h.lt
      have hfg : g ≠ gv := by
        intro e
        rcases hf.2 with ⟨e1, _⟩ | ⟨g1, _, cur1, e1, _, hc1, _⟩
        · cases e1
        · simp only [Value.slice.injEq, Option.some.injEq, Addr.mk.injEq, and_true, true_and] at e1
          obtain ⟨e2, _⟩ := e1
          rw [← e2, e, hcur] at hc1
          simp at hc1
      refine fin (w.drew.freeze ⟨gv, 0, none⟩ l.length) (some ⟨gv, 0, none⟩) l.length cap2 (string_some B gv cap2 _ p e n l w h h0 (B + 1) hv) (h.later (heap_freeze_other w.drew _ _ (by simp; omega))) (owns_kept hf (fun j hj => heap_freeze_other w.drew _ _ ?_)) (Lib.below_freeze ((Below.refl base w).drew) (p := ⟨gv, 0, none⟩) (by simp; omega) _) (size_freeze _ _ _) (fun _ => h0) (by unfold maxLen at h2; omega) (fun j hj => heap_freeze_other w.drew _ _ (by simp; omega))
      simp only [Value.ownBlock, Option.some.injEq] at hj
      subst hj
      exact hfg

end Go.Proofs.Qxb6605841a
