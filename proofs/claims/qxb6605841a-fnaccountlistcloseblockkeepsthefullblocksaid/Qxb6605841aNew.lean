/-
  ZZnewAccountList; String, Cap, Len at the list's builder; Clone.
-/
import Derived.Test.Qxb6605841aBuild
import Derived.Shelf.RegionOpen
namespace Go.Proofs.Qxb6605841a
open Go.RowKit
set_option linter.unusedVariables false
set_option linter.unusedSimpArgs false

set_option maxRecDepth 100000 in
set_option maxHeartbeats 1000000 in
theorem new13 (g k cap ge K n : Nat) (l : List UInt8) (w : World) (hl : l.length ≤ 1048576) :
    Calls Try.prog 13 #[.slice (some ⟨g, 0, none⟩) k cap, .string ⟨l.toArray⟩, .slice (some ⟨ge, 0, none⟩) K K, .int .i64 n] w fun e' w' => e' = .returned (.pointer (some ⟨w.heap.size, 0, none⟩)) ∧
      (∃ v, ListAt w' w.heap.size (.slice (some ⟨g, 0, none⟩) k cap) (.pointer (some ⟨w.heap.size, 1, none⟩)) v (.slice (some ⟨ge, 0, none⟩) K K) (.int .i64 n) ∧ w'.ownsRow (w.heap.size + 1) 5 1 v l.length (Lib.byteCells l) ∧ (l = [] → v = .slice none 0 0)) ∧ Below w.heap.size w w' := by
  have hcon := write27 w.heap.size w.heap.size (.slice (some ⟨g, 0, none⟩) k cap) (.slice none 0 0) (.int .i64 0) l (w.alloc (.cells #[.slice (some ⟨g, 0, none⟩) k cap, .pointer none, .slice none 0 0, .slice none 0 0, .int .i64 0] 55)) (heap_alloc_new w _) hl (by simp) (Nat.le_refl _)
  rw [World.size_alloc] at hcon
  go_enter Try.func13, Try.ntmps13
  go_wp2_with (go_at_call 27; refine hcon.mono ?_; rintro e' w1 ⟨rfl, ⟨v, l1, ho1, hn1⟩, hb1, hk1⟩; have HN1 := hid hn1; clear hn1; have HL1 := hid l1; have HB1 := hid hb1; have HO1 := hid ho1; have c3 := l1.c3; have c4 := l1.c4; have f3 := l1.fz 3; have f4 := l1.fz 4; clear l1 hb1 ho1 hk1)
  go_ret
  have hne := Lib.ownBlock_ne HO1.out HL1.out (by decide)
  have kept : ∀ (w : World) (b o : Nat) (x : Value), w.grownBy (w.setCell ⟨b, o, none⟩ x) (some b) := fun w b o x => ⟨rfl, rfl, rfl, by simp [World.setCell], fun k _ hk => Below.heap_setCell _ _ _ _ (fun e => hk (by simp [e]))⟩
  refine ⟨rfl, ⟨v, (HL1.out.set3 _).set4 _, ?_, HN1.out⟩, ?_⟩
  · exact (HO1.out.kept (kept w1 _ 3 _) (.inr hne)).kept (kept _ _ 4 _) (.inr hne)
  · exact ((((Below.refl _ w).alloc (Nat.le_refl _) _).trans HB1.out).setCell (p := ⟨w.heap.size, 3, none⟩) (Nat.le_refl _) _).setCell (p := ⟨w.heap.size, 4, none⟩) (Nat.le_refl _) _

set_option maxRecDepth 100000 in
set_option maxHeartbeats 1000000 in
theorem string35 (B m cap : Nat) (a q : Option Addr) (u p e n : Value) (s : ByteArray) (w W2 : World) (h : ListAt w B u p (.slice a m cap) e n)
    (hSD : (Builtin.unsafeSliceData_ #[49] 72 #[.slice a m cap]).run Try.prog w.drew = .ok (.pointer q) w.drew)
    (hUS : (Builtin.unsafeString_ #[72, 3] 9 #[.pointer q, .int .i64 m]).run Try.prog w.drew = .ok (.string s) W2) :
    Calls Try.prog 35 #[.pointer (some ⟨B, 1, none⟩)] w fun e' w' => e' = .returned (.string s) ∧ w' = W2 := by
  have mixed : Try.prog.follows .mixedOrders = true := by kernel_rfl
  have c2 : w.drew.cell? ⟨B, 2, none⟩ = some (.slice a m cap) := h.c2
  clear h
  go_enter Try.func35, Try.ntmps35
  go_wp2
  go_region
  all_goals (go_wp2; go_ret; exact ⟨rfl, rfl⟩)

end Go.Proofs.Qxb6605841a
