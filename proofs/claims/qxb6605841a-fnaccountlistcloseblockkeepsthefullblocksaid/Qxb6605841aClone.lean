/-
  String at what the builder may hold; Cap; Len; strings.Clone.
-/
import Derived.Test.Qxb6605841aNew
import Derived.Lib.BufferWrite
import Derived.Lib.Strings
namespace Go.Proofs.Qxb6605841a
open Go.RowKit
set_option linter.unusedVariables false
set_option linter.unusedSimpArgs false

theorem cells5 : Try.prog.cellsOf 5 = 1 := by kernel_rfl

/-- String where the builder holds bytes: they, and their row is frozen. -/
theorem string_some (B g cap : Nat) (u p e n : Value) (l : List UInt8) (w : World) (h : ListAt w B u p (.slice (some ⟨g, 0, none⟩) l.length cap) e n) (h0 : l ≠ []) (base : Nat)
    (ho : w.ownsRow base 5 1 (.slice (some ⟨g, 0, none⟩) l.length cap) l.length (Lib.byteCells l)) :
    Calls Try.prog 35 #[.pointer (some ⟨B, 1, none⟩)] w fun e' w' => e' = .returned (.string ⟨l.toArray⟩) ∧ w' = w.drew.freeze ⟨g, 0, none⟩ l.length := by
  have hl0 : l.length ≠ 0 := by simpa using h0
  obtain ⟨cur, hg, hc1, hc2, hcs⟩ : ∃ cur : Array Value, w.heap[g]? = some (.cells cur 5 (0, 0)) ∧ l.length ≤ cap ∧ cap ≤ maxLen ∧ cur.size = cap := by
    rcases ho.2 with ⟨e, _⟩ | ⟨g', cap', cur, e, _, hg, h1, h2, h3, _⟩
    · cases e
    · simp only [Value.slice.injEq, Option.some.injEq, Addr.mk.injEq, and_true, true_and] at e
      obtain ⟨rfl, rfl⟩ := e
      exact ⟨cur, hg, h1, h2, by omega⟩
  have hm : cap ≤ 9223372036854775807 := by unfold maxLen at hc2; omega
  refine string35 B l.length cap _ (some ⟨g, 0, none⟩) u p e n ⟨l.toArray⟩ w _ h (Lib.run_unsafeSliceData_row _ _ _ _ _ _ (by omega)) ?_
  refine Lib.run_unsafeString_row w.drew 72 3 9 5 Try.underlying72 cells5 g cur.size ?_ l h0 (by omega) (by omega) ?_
  · have hg' : w.drew.heap[g]? = some (.cells cur 5 (0, 0)) := hg
    simp [World.shape?, hg']
  · intro j x hx
    exact ho.cells (g := g) rfl j (.int .u8 x.toNat) (by simp [Lib.byteCells, hx])

/-- String where the builder holds nothing. -/
theorem string_none (B cap : Nat) (a : Option Addr) (u p e n : Value) (w : World) (h : ListAt w B u p (.slice a 0 cap) e n) (ha : a = none ∨ ∃ x, a = some x ∧ cap ≠ 0) :
    Calls Try.prog 35 #[.pointer (some ⟨B, 1, none⟩)] w fun e' w' => e' = .returned (.string ⟨#[]⟩) ∧ w' = w.drew := by
  rcases ha with rfl | ⟨x, rfl, hc⟩
  · exact string35 B 0 cap none none u p e n ⟨#[]⟩ w _ h rfl (Lib.run_unsafeString_none _ _ _ _ _)
  · exact string35 B 0 cap (some x) (some x) u p e n ⟨#[]⟩ w _ h (Lib.run_unsafeSliceData_row _ _ _ _ _ _ hc) (Lib.run_unsafeString_none _ _ _ _ _)

set_option maxHeartbeats 1000000 in
theorem cap31 (B m cap : Nat) (a : Option Addr) (u p e n : Value) (w : World) (h : ListAt w B u p (.slice a m cap) e n) :
    Calls Try.prog 31 #[.pointer (some ⟨B, 1, none⟩)] w fun e' w' => e' = .returned (.int .i64 cap) ∧ w = w' := by
  have c2 := h.c2
  clear h
  go_enter Try.func31, Try.ntmps31
  go_wp2
  go_ret
  exact ⟨rfl, rfl⟩

set_option maxHeartbeats 1000000 in
theorem len30 (B m cap : Nat) (a : Option Addr) (u p e n : Value) (w : World) (h : ListAt w B u p (.slice a m cap) e n) :
    Calls Try.prog 30 #[.pointer (some ⟨B, 1, none⟩)] w fun e' w' => e' = .returned (.int .i64 m) ∧ w = w' := by
  have c2 := h.c2
  clear h
  go_enter Try.func30, Try.ntmps30
  go_wp2
  go_ret
  exact ⟨rfl, rfl⟩

set_option maxRecDepth 100000 in
set_option maxHeartbeats 2000000 in
theorem clone41 (l : List UInt8) (w : World) (h0 : l ≠ []) (hl : l.length ≤ 1048576) :
    Calls Try.prog 41 #[.string ⟨l.toArray⟩] w fun e' w' => e' = .returned (.string ⟨l.toArray⟩) ∧ Below w.heap.size w w' := by
  have hl0 : l.length ≠ 0 := by simpa using h0
  have hsz : (⟨l.toArray⟩ : ByteArray).size = l.length := by simp [ByteArray.size]
  have hmk := run_make_row' (P := Try.prog) 49 5 (.int .u8 0) 1 Try.underlying49 info5 rfl .i64 .i64 l.length (by omega) (by omega)
  have hi5 : (Try.prog.info? 5).map (·.size) = some 1 := by kernel_rfl
  have hms := size_madeCells #[Value.int .u8 0] l.length
  generalize madeCells #[Value.int .u8 0] l.length = M at hmk hms
  -- the copy
  have hcp := Lib.run_copy_row_string (P := Try.prog) (w.alloc (.cells M 5)) 49 9 3 5 w.heap.size 0 l.length l.length ⟨l.toArray⟩ M 5 Try.underlying49 hi5 (heap_alloc_new w _) (by omega) (by omega)
  have hrow : (M.toList.take 0 ++ Lib.byteCells (⟨l.toArray⟩ : ByteArray).data.toList ++ M.toList.drop (0 + (⟨l.toArray⟩ : ByteArray).size)) = Lib.byteCells l := by
    rw [hsz, List.take_zero, List.nil_append, List.drop_of_length_le (by rw [Array.length_toList]; omega), List.append_nil]
  rw [hrow, hsz] at hcp
  have hg := setRow_heap (w.alloc (.cells M 5)) w.heap.size M (Lib.byteCells l).toArray 5 (0, 0) (heap_alloc_new w _)
  -- the string over it
  have hus := Lib.run_unsafeString_row (P := Try.prog) ((w.alloc (.cells M 5)).setRow w.heap.size (Lib.byteCells l).toArray) 72 3 9 5 Try.underlying72 cells5 w.heap.size l.length (by unfold World.shape?; rw [hg]; simp [Lib.byteCells_length]) l h0 (Nat.le_refl _) (by omega)
    (fun j x hx => Lib.cells_of_row hg l.length j _ (by rw [List.toList_toArray, List.take_of_length_le (by rw [Lib.byteCells_length]; exact Nat.le_refl _)]; simp [Lib.byteCells, hx]))
  have hb : Below w.heap.size w ((w.alloc (.cells M 5)).setRow w.heap.size (Lib.byteCells l).toArray) :=
    ((Below.refl _ w).alloc (Nat.le_refl _) _).trans ⟨rfl, rfl, rfl, by simp, fun k hk => setRow_other _ _ _ _ (by omega)⟩
  have HB := hid hb
  clear hg hrow hms hb
  go_enter Try.func41, Try.ntmps41
  go_wp2
  go_ret
  exact ⟨rfl, Lib.below_freeze HB.out (p := ⟨w.heap.size, 0, none⟩) (Nat.le_refl _) _⟩

set_option maxHeartbeats 1000000 in
theorem clone37 (l : List UInt8) (w : World) (h0 : l ≠ []) (hl : l.length ≤ 1048576) :
    Calls Try.prog 37 #[.string ⟨l.toArray⟩] w fun e' w' => e' = .returned (.string ⟨l.toArray⟩) ∧ Below w.heap.size w w' := by
  have hcon := clone41 l w h0 hl
  go_enter Try.func37, Try.ntmps37
  go_wp2_with (go_at_call 41; refine hcon.mono ?_; rintro e' w' ⟨rfl, hb⟩; have HB := hid hb; clear hb)
  go_ret
  exact ⟨rfl, HB.out⟩

end Go.Proofs.Qxb6605841a
