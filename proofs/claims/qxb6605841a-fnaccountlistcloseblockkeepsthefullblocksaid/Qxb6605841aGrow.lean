/-
  Grow at the list's builder, fresh.
-/
import Derived.Test.Qxb6605841aClone
import Derived.Lib.MakeNoZero
import Derived.Laws.IdiomCopy
namespace Go.Proofs.Qxb6605841a
open Go.RowKit
set_option linter.unusedVariables false
set_option linter.unusedSimpArgs false

theorem heap_alloc_old' (w : World) (o : Obj) {k : Nat} (hk : k < w.heap.size) : (w.alloc o).heap[k]? = w.heap[k]? := Below.heap_alloc _ _ _ hk

set_option maxRecDepth 100000 in
set_option maxHeartbeats 2000000 in
theorem grow42 (B m base : Nat) (u p e n : Value) (w : World) (h : ListAt w B u p (.slice none 0 0) e n) (hm : m ≤ 1048576) (hB : base ≤ w.heap.size) (hBB : base ≤ B) :
    Calls Try.prog 42 #[.pointer (some ⟨B, 1, none⟩), .int .i64 m] w fun e' w' => e' = .returned (.tuple #[]) ∧
      (∃ cap, m ≤ cap ∧ ListAt w' B u p (.slice (some ⟨w.heap.size, 0, none⟩) 0 cap) e n) ∧ Below base w w' ∧ ∀ k, k < w.heap.size → k ≠ B → w'.heap[k]? = w.heap[k]? := by
  have mixed : Try.prog.follows .mixedOrders = true := by kernel_rfl
  obtain ⟨cs, hrun, hle, hmax⟩ := Lib.run_makeNoZero (P := Try.prog) w.drew #[3] 49 5 Try.underlying49 m (by omega)
  have hcall : (callFunc 43 #[.int .i64 (m : Int)]).run Try.prog w.drew = .ok (.value (.slice (some ⟨w.drew.heap.size, 0, none⟩) m cs.size)) (w.drew.drew.drew.alloc (.cells cs 5)) := by
    rw [run_callFunc_extern Try.func43 (by kernel_rfl) (by kernel_rfl) (by kernel_rfl) (e := Extern.BytealgMakeNoZero.makeNoZero #[3] #[49]) (by kernel_rfl), hrun]
    rfl
  have hlt := h.lt
  have h' : ListAt (w.alloc (.cells cs 5)) B u p (.slice none 0 0) e n := h.later (heap_alloc_old' w _ hlt)
  have c1 : w.drew.cell? ⟨B, 2, none⟩ = some (.slice none 0 0) := h.c2
  have c2 := h'.c2
  have f2 := h'.fz 2
  have hcopy : ∀ W : World, (Builtin.copy_ #[49, 49] 3 #[.slice (some ⟨w.heap.size, 0, none⟩) 0 cs.size, .slice none 0 0]).run Try.prog W = .ok (goInt 0) W :=
    fun W => run_copy_none W 49 49 3 5 _ _ 0 cs.size 0 0 Try.underlying49 (by kernel_rfl) rfl
  have HL : Hid (ListAt ((w.setCell ⟨B, 2, none⟩ (.slice (some ⟨w.heap.size, 0, none⟩) 0 cs.size)).alloc (.cells cs 5)) B u p (.slice (some ⟨w.heap.size, 0, none⟩) 0 cs.size) e n) := (h.set2 _).later (heap_alloc_old' _ _ (by simpa using hlt))
  clear h h' hrun
  go_enter Try.func42, Try.ntmps42
  go_wp2
  go_region
  all_goals (
    go_wp2
    go_end0
    refine ⟨rfl, ⟨cs.size, hle, HL.out⟩, ?_, ?_⟩
    · exact ((((Below.refl base w).setCell (p := ⟨B, 2, none⟩) hBB _).alloc (by simpa using hB) _).drew.drew).drew
    · intro k hk hkB
      exact (heap_alloc_old' _ _ (by simpa using hk)).trans (Below.heap_setCell w ⟨B, 2, none⟩ _ k (fun e => hkB e)))

set_option maxRecDepth 100000 in
set_option maxHeartbeats 2000000 in
theorem grow38 (B m base : Nat) (u e n : Value) (w : World) (h : ListAt w B u (.pointer none) (.slice none 0 0) e n) (hm : m ≤ 1048576) (hB : base ≤ w.heap.size) (hBB : base ≤ B) :
    Calls Try.prog 38 #[.pointer (some ⟨B, 1, none⟩), .int .i64 m] w fun e' w' => e' = .returned (.tuple #[]) ∧
      (∃ a cap, m ≤ cap ∧ (a = none ∨ ∃ x, a = some x ∧ cap ≠ 0) ∧ ListAt w' B u (.pointer (some ⟨B, 1, none⟩)) (.slice a 0 cap) e n) ∧ Below base w w' ∧ ∀ k, k < w.heap.size → k ≠ B → w'.heap[k]? = w.heap[k]? := by
  have h1 := h.set1 (.pointer (some ⟨B, 1, none⟩))
  have hcon := check34_fresh B u (.slice none 0 0) e n w h
  have hcon2 := fun q => grow42 B m base u (.pointer (some ⟨B, 1, none⟩)) e n ((w.setCell ⟨B, 1, none⟩ (.pointer (some ⟨B, 1, none⟩))).drewN q) (h1.later rfl) hm (show base ≤ (w.setCell ⟨B, 1, none⟩ (.pointer (some ⟨B, 1, none⟩))).heap.size by simpa using hB) hBB
  have c2 := h1.c2
  have HL1 := hid h1
  have hlt := h.lt
  have hb1 := (Below.refl base w).setCell (p := ⟨B, 1, none⟩) hBB (.pointer (some ⟨B, 1, none⟩))
  have hk1 : ∀ k, k ≠ B → (w.setCell ⟨B, 1, none⟩ (.pointer (some ⟨B, 1, none⟩))).heap[k]? = w.heap[k]? := fun k hk => Below.heap_setCell w ⟨B, 1, none⟩ _ k (fun e => hk e)
  have hsz : (w.setCell ⟨B, 1, none⟩ (.pointer (some ⟨B, 1, none⟩))).heap.size = w.heap.size := by simp
  have HB1 := hid hb1
  have HK1 := hid hk1
  have HSZ := hid hsz
  clear h h1 hb1 hk1 hsz
  have hk0 : ∃ W, W = w.setCell ⟨B, 1, none⟩ (.pointer (some ⟨B, 1, none⟩)) := ⟨_, rfl⟩
  obtain ⟨W, hW⟩ := hk0
  rw [← hW] at hcon hcon2 c2 HL1 HB1 HK1 HSZ
  clear hW
  by_cases hm0 : m = 0
  · subst hm0
    clear hcon2
    go_enter Try.func38, Try.ntmps38
    go_wp2_with (go_at_call 34; refine hcon.mono ?_; rintro e' w1 ⟨rfl, rfl⟩)
    go_quiet (fail)
    go_wp2
    go_end0
    refine ⟨rfl, ⟨none, 0, Nat.le_refl _, .inl rfl, HL1.out.later rfl⟩, below_drewN HB1.out _, fun k hk hkB => HK1.out k hkB⟩
  · have hm1 : (0 : Int) < (m : Int) := by omega
    go_enter Try.func38, Try.ntmps38
    go_wp2_with (go_at_call 34; refine hcon.mono ?_; rintro e' w1 ⟨rfl, rfl⟩)
    go_quiet (fail)
    have hcon3 := hcon2 nq
    go_wp2_with (go_at_call 42; refine hcon3.mono ?_; rintro e' w2 ⟨rfl, ⟨cap, hc, hl2⟩, hb2, hk2⟩; have HL2 := hid hl2; have HB2 := hid hb2; have HK2 := hid hk2; clear hl2 hb2 hk2)
    go_end0
    refine ⟨rfl, ⟨_, cap, hc, .inr ⟨_, rfl, by omega⟩, HL2.out⟩, (below_drewN HB1.out _).trans HB2.out, fun k hk hkB => (HK2.out k ?_ hkB).trans (HK1.out k hkB)⟩
    have := HSZ.out
    show k < w1.heap.size
    omega

end Go.Proofs.Qxb6605841a
