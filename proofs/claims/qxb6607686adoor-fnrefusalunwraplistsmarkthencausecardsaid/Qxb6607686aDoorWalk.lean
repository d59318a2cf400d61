/-
  ZZRefusalUnwrap and the law.
-/
import Derived.Test.Qxb6607686aDoorIs
import Derived.Deep.QuietTactic
import Derived.Deep.Cut
import Derived.BigQuiet
import Derived.Deep.RegionHeld3
namespace Go.Proofs.Qxb6607686aDoor
open Go.RowKit Go.Extern.Stop Go.Stop Go.Extern
set_option linter.unusedVariables false
set_option linter.unusedSimpArgs false

theorem isComparable' (w : World) : ((Extern.ReflectliteType.method fun t => do Go.Extern.Rtype.noPackHeld "Comparable" t; (fun a => Value.bool a.comparable) <$> typeInfo t) #[.agg #[.pointer (some ⟨1, 40, none⟩)]]).run Tryd.prog w = .ok (.bool true) w := by kernel_rfl

/-- errors.Is, by errors.is. -/
theorem isIs (t : TypeId) (ht : t = 40 ∨ t = 37) (v : Value) (b : Addr) (r : Bool) (w : World) (h : Calls Tryd.prog 21 #[.iface t v, .iface 40 (.pointer (some b)), .bool true] w fun e w' => e = .returned (.bool r) ∧ Below w.heap.size w w') :
    Calls Tryd.prog 18 #[.iface t v, .iface 40 (.pointer (some b))] w fun e w' => e = .returned (.bool r) ∧ Below w.heap.size w w' := by
  have h20 := @run_callFunc_extern Tryd.prog 20 _ Extern.ReflectliteType.typeOf Tryd.func20 (by kernel_rfl) (by kernel_rfl) (by kernel_rfl) (by kernel_rfl)
  have h42 := @run_callFunc_extern Tryd.prog 42 _ (Extern.ReflectliteType.method fun t => do Go.Extern.Rtype.noPackHeld "Comparable" t; pure (.bool (← typeInfo t).comparable)) Tryd.func42 (by kernel_rfl) (by kernel_rfl) (by kernel_rfl) (by kernel_rfl)
  have tT := isTypeOf
  have cT := isComparable'
  have mR := isMethodComparable
  rcases ht with rfl | rfl
  · go_enter Tryd.func18, Tryd.ntmps18
    go_wp2_with (go_at_call 21; refine h.mono ?_; rintro e w1 ⟨rfl, hb⟩; have HB := hid hb; clear hb)
    go_ret
    exact ⟨rfl, HB.out⟩
  · go_enter Tryd.func18, Tryd.ntmps18
    go_wp2_with (go_at_call 21; refine h.mono ?_; rintro e w1 ⟨rfl, hb⟩; have HB := hid hb; clear hb)
    go_ret
    exact ⟨rfl, HB.out⟩

/-- errors.Is at an error of errors.New's make: nothing is made. -/
theorem isIsQ (v : Value) (b : Addr) (r : Bool) (w : World) (h : Calls Tryd.prog 21 #[.iface 40 v, .iface 40 (.pointer (some b)), .bool true] w fun e w' => e = .returned (.bool r) ∧ w = w') :
    Calls Tryd.prog 18 #[.iface 40 v, .iface 40 (.pointer (some b))] w fun e w' => e = .returned (.bool r) ∧ w' = w := by
  have h20 := @run_callFunc_extern Tryd.prog 20 _ Extern.ReflectliteType.typeOf Tryd.func20 (by kernel_rfl) (by kernel_rfl) (by kernel_rfl) (by kernel_rfl)
  have h42 := @run_callFunc_extern Tryd.prog 42 _ (Extern.ReflectliteType.method fun t => do Go.Extern.Rtype.noPackHeld "Comparable" t; pure (.bool (← typeInfo t).comparable)) Tryd.func42 (by kernel_rfl) (by kernel_rfl) (by kernel_rfl) (by kernel_rfl)
  have tT := isTypeOf
  have cT := isComparable'
  have mR := isMethodComparable
  go_enter Tryd.func18, Tryd.ntmps18
  go_wp2_with (go_at_call 21; refine h.mono ?_; rintro e w1 ⟨rfl, rfl⟩)
  go_ret
  exact ⟨rfl, rfl⟩

theorem isSameQ (a : Addr) (w : World) : Calls Tryd.prog 18 #[.iface 40 (.pointer (some a)), .iface 40 (.pointer (some a))] w fun e w' => e = .returned (.bool true) ∧ w' = w := isIsQ _ a true w (is_same a w)
theorem isOtherQ (a b : Addr) (ca cb : Array Value) (ta tb : TypeId) (w : World) (hne : a ≠ b) (ha : w.heap[a.block]? = some (.cells ca ta (0, 0))) (hb : w.heap[b.block]? = some (.cells cb tb (0, 0))) :
    Calls Tryd.prog 18 #[.iface 40 (.pointer (some a)), .iface 40 (.pointer (some b))] w fun e w' => e = .returned (.bool false) ∧ w' = w := isIsQ _ b false w (is_other a b ca cb ta tb w hne ha hb)

theorem isSame (a : Addr) (w : World) : Calls Tryd.prog 18 #[.iface 40 (.pointer (some a)), .iface 40 (.pointer (some a))] w fun e w' => e = .returned (.bool true) ∧ Below w.heap.size w w' :=
  isIs 40 (.inl rfl) _ a true w ((is_same a w).mono fun e w' ⟨h1, h2⟩ => ⟨h1, by rw [h2]; exact Below.refl _ _⟩)

theorem isOther (a b : Addr) (ca cb : Array Value) (ta tb : TypeId) (w : World) (hne : a ≠ b) (ha : w.heap[a.block]? = some (.cells ca ta (0, 0))) (hb : w.heap[b.block]? = some (.cells cb tb (0, 0))) :
    Calls Tryd.prog 18 #[.iface 40 (.pointer (some a)), .iface 40 (.pointer (some b))] w fun e w' => e = .returned (.bool false) ∧ Below w.heap.size w w' :=
  isIs 40 (.inl rfl) _ b false w ((is_other a b ca cb ta tb w hne ha hb).mono fun e w' ⟨h1, h2⟩ => ⟨h1, by rw [h2]; exact Below.refl _ _⟩)

/-- errors.New. -/
theorem new17 (s : ByteArray) (W : World) : Calls Tryd.prog 17 #[.string s] W fun e w' => e = .returned (.iface 40 (.pointer (some ⟨W.heap.size, 0, none⟩))) ∧ w' = W.alloc (.cells #[.string s] 42) := by
  go_enter Tryd.func17, Tryd.ntmps17
  go_wp2
  go_ret
  exact ⟨rfl, rfl⟩

theorem belowDrewN {B : Nat} {a w : World} (h : Below B a w) (n : Nat) : Below B a (w.drewN n) := h.trans ⟨rfl, rfl, rfl, Nat.le_refl _, fun _ _ => rfl⟩

/-- What the errors and the list look like behind Unwrap. -/
def St (c : Addr) (cs : Array Value) (tc : TypeId) (N L : Nat) (text : ByteArray) (W : World) : Prop :=
  W.cell? ⟨0, 0, none⟩ = some (.iface 40 (.pointer (some c))) ∧ W.heap[c.block]? = some (.cells cs tc (0, 0)) ∧ W.heap[N]? = some (.cells #[.string text] 42 (0, 0)) ∧ W.cell? ⟨N + 1, 0, none⟩ = some (.iface 40 (.pointer (some ⟨N, 0, none⟩))) ∧
  W.cell? ⟨L, 0, none⟩ = some (.iface 40 (.pointer (some c))) ∧ W.cell? ⟨L, 1, none⟩ = some (.iface 40 (.pointer (some ⟨N, 0, none⟩))) ∧ 0 < W.heap.size ∧ c.block < W.heap.size ∧ N + 1 < W.heap.size ∧ L < W.heap.size

theorem St.later {c : Addr} {cs : Array Value} {tc : TypeId} {N L : Nat} {text : ByteArray} {W W' : World} (h : St c cs tc N L text W) (hb : Below W.heap.size W W') : St c cs tc N L text W' := by
  obtain ⟨a1, a2, a3, a4, a5, a6, a7, a8, a9, a10⟩ := h
  have hs := hb.size
  exact ⟨(hb.cell (p := ⟨0, 0, none⟩) a7).trans a1, (hb.block _ a8).trans a2, (hb.block _ (by omega)).trans a3, (hb.cell (p := ⟨N + 1, 0, none⟩) a9).trans a4, (hb.cell (p := ⟨L, 0, none⟩) a10).trans a5, (hb.cell (p := ⟨L, 1, none⟩) a10).trans a6, by omega, by omega, by omega, by omega⟩

theorem allocs (w : World) (A B C D : Obj) : ((((w.alloc A).alloc B).alloc C).alloc D).heap[w.heap.size]? = some A ∧ ((((w.alloc A).alloc B).alloc C).alloc D).heap[w.heap.size + 1]? = some B ∧ ((((w.alloc A).alloc B).alloc C).alloc D).heap[w.heap.size + 3]? = some D ∧ ((((w.alloc A).alloc B).alloc C).alloc D).heap.size = w.heap.size + 4 := by
  have s1 : (w.alloc A).heap.size = w.heap.size + 1 := World.size_alloc _ _
  have s2 : ((w.alloc A).alloc B).heap.size = w.heap.size + 2 := by rw [World.size_alloc, s1]
  have s3 : (((w.alloc A).alloc B).alloc C).heap.size = w.heap.size + 3 := by rw [World.size_alloc, s2]
  have s4 : ((((w.alloc A).alloc B).alloc C).alloc D).heap.size = w.heap.size + 4 := by rw [World.size_alloc, s3]
  have h0 := heap_alloc_new w A
  have h1 := heap_alloc_new (w.alloc A) B
  have h3 := heap_alloc_new (((w.alloc A).alloc B).alloc C) D
  rw [s1] at h1
  rw [s3] at h3
  refine ⟨?_, ?_, h3, s4⟩
  · rw [Below.heap_alloc _ _ _ (by rw [s3]; omega), Below.heap_alloc _ _ _ (by rw [s2]; omega), Below.heap_alloc _ _ _ (by rw [s1]; omega)]; exact h0
  · rw [Below.heap_alloc _ _ _ (by rw [s3]; omega), Below.heap_alloc _ _ _ (by rw [s2]; omega)]; exact h1

theorem St.drew {c : Addr} {cs : Array Value} {tc : TypeId} {N L : Nat} {text : ByteArray} {W : World} (h : St c cs tc N L text W) : St c cs tc N L text W.drew := h.later ((Below.refl _ W).drew)

theorem isAt {c : Addr} {cs : Array Value} {tc : TypeId} {N L : Nat} {text : ByteArray} {W : World} (h : St c cs tc N L text W) (hne : c ≠ ⟨N, 0, none⟩) (b : Addr) (r0 r1 : Bool)
    (k0 : ∀ V, St c cs tc N L text V → Below W.heap.size W V → Calls Tryd.prog 21 #[.iface 40 (.pointer (some c)), .iface 40 (.pointer (some b)), .bool true] V fun e w' => e = .returned (.bool r0) ∧ V = w')
    (k1 : ∀ V, St c cs tc N L text V → Below W.heap.size W V → Calls Tryd.prog 21 #[.iface 40 (.pointer (some ⟨N, 0, none⟩)), .iface 40 (.pointer (some b)), .bool true] V fun e w' => e = .returned (.bool r1) ∧ V = w') :
    Calls Tryd.prog 18 #[.iface 37 (.agg #[.iface 40 (.pointer (some ⟨N, 0, none⟩))]), .iface 40 (.pointer (some b))] W fun e w' => e = .returned (.bool (r0 || r1)) ∧ Below W.heap.size W w' :=
  isIs 37 (.inr rfl) _ b (r0 || r1) W (is_refusal ⟨N, 0, none⟩ b c r0 r1 W h.2.2.2.2.2.2.1 h.1 (fun V hV => k0 V (h.later hV) hV) (fun V hV => k1 V (h.later hV) hV))

/-- errors.Is(r, ErrRefused). -/
theorem kMark {c : Addr} {cs : Array Value} {tc : TypeId} {N L : Nat} {text : ByteArray} (hne : c ≠ ⟨N, 0, none⟩) (W : World) (h : St c cs tc N L text W) :
    Calls Tryd.prog 18 #[.iface 37 (.agg #[.iface 40 (.pointer (some ⟨N, 0, none⟩))]), .iface 40 (.pointer (some c))] W fun e w' => e = .returned (.bool true) ∧ Below W.heap.size W w' :=
  isAt h hne c true false (fun V hV _ => is_same c V) (fun V hV _ => is_other ⟨N, 0, none⟩ c #[.string text] cs 42 tc V (fun e => hne e.symm) hV.2.2.1 hV.2.1)

/-- errors.Is(r, in). -/
theorem kCause {c : Addr} {cs : Array Value} {tc : TypeId} {N L : Nat} {text : ByteArray} (hne : c ≠ ⟨N, 0, none⟩) (W : World) (h : St c cs tc N L text W) :
    Calls Tryd.prog 18 #[.iface 37 (.agg #[.iface 40 (.pointer (some ⟨N, 0, none⟩))]), .iface 40 (.pointer (some ⟨N, 0, none⟩))] W fun e w' => e = .returned (.bool true) ∧ Below W.heap.size W w' :=
  isAt h hne ⟨N, 0, none⟩ false true (fun V hV _ => is_other c ⟨N, 0, none⟩ cs #[.string text] tc 42 V hne hV.2.1 hV.2.2.1) (fun V hV _ => is_same ⟨N, 0, none⟩ V)

/-- errors.Is(r, another error). -/
theorem kOther {c : Addr} {cs : Array Value} {tc : TypeId} {N L : Nat} {text : ByteArray} (hne : c ≠ ⟨N, 0, none⟩) (W : World) (h : St c cs tc N L text W) (b : Nat) (cb : Array Value) (hb : W.heap[b]? = some (.cells cb 42 (0, 0))) (hc : c ≠ ⟨b, 0, none⟩) (hN : N ≠ b) :
    Calls Tryd.prog 18 #[.iface 37 (.agg #[.iface 40 (.pointer (some ⟨N, 0, none⟩))]), .iface 40 (.pointer (some ⟨b, 0, none⟩))] W fun e w' => e = .returned (.bool false) ∧ Below W.heap.size W w' :=
  have hlt : b < W.heap.size := (Array.getElem?_eq_some_iff.1 hb).1
  isAt h hne ⟨b, 0, none⟩ false false (fun V hV hB => is_other c ⟨b, 0, none⟩ cs cb tc 42 V hc hV.2.1 ((hB.block b hlt).trans hb)) (fun V hV hB => is_other ⟨N, 0, none⟩ ⟨b, 0, none⟩ #[.string text] cb 42 42 V (fun e => hN (by injection e)) hV.2.2.1 ((hB.block b hlt).trans hb))

theorem new17' {c : Addr} {cs : Array Value} {tc : TypeId} {N L : Nat} {text : ByteArray} (s : ByteArray) (W : World) (h : St c cs tc N L text W) :
    Calls Tryd.prog 17 #[.string s] W fun e w' => ∃ b, e = .returned (.iface 40 (.pointer (some ⟨b, 0, none⟩))) ∧ Below W.heap.size W w' ∧ w'.heap[b]? = some (.cells #[.string s] 42 (0, 0)) ∧ c ≠ ⟨b, 0, none⟩ ∧ N ≠ b := by
  refine (new17 s W).mono ?_
  rintro e w' ⟨rfl, rfl⟩
  obtain ⟨_, _, _, _, _, _, _, a8, a9, _⟩ := h
  refine ⟨W.heap.size, rfl, (Below.refl _ W).alloc (Nat.le_refl _) _, heap_alloc_new W _, fun e => ?_, by omega⟩
  rw [e] at a8
  exact absurd a8 (Nat.lt_irrefl _)

theorem results_tmp6 {fn : Func} {t u v x y z : Tmp} (h : fn.results = #[.tmp t, .tmp u, .tmp v, .tmp x, .tmp y, .tmp z]) (tmps : Array Value) (P : Program) (w : World) :
    (results fn tmps).run P w = .ok (.tuple #[tmps.getD t undef, tmps.getD u undef, tmps.getD v undef, tmps.getD x undef, tmps.getD y undef, tmps.getD z undef]) w := by
  simp [results, h, go_sem]

set_option maxRecDepth 100000 in
set_option maxHeartbeats 0 in
theorem unwrap13 (text other : ByteArray) (c : Addr) (cs : Array Value) (tc : TypeId) (w : World) (hz : 0 < w.heap.size) (h0 : w.cell? ⟨0, 0, none⟩ = some (.iface 40 (.pointer (some c)))) (hc : w.heap[c.block]? = some (.cells cs tc (0, 0))) :
    Calls Tryd.prog 13 #[.string text, .string other] w fun e w' => e = .returned (.tuple #[.int .i64 2, .bool true, .bool true, .bool true, .bool true, .bool false]) ∧ Below w.heap.size w w' := by
  have hlt : c.block < w.heap.size := (Array.getElem?_eq_some_iff.1 hc).1
  have HC := hid hc
  clear hc
  go_enter Tryd.func13, Tryd.ntmps13
  have h0' : ((w.alloc (.cells #[.string text] 42)).alloc (.cells #[.iface 40 (.pointer (some ⟨w.heap.size, 0, none⟩))] 37)).cell? ⟨0, 0, none⟩ = some (.iface 40 (.pointer (some c))) := ((((Below.refl _ w).alloc (Nat.le_refl _) _).alloc (by simp) _).cell (p := ⟨0, 0, none⟩) hz).trans h0
  have hun := (unwrap19 ⟨w.heap.size, 0, none⟩ c _ (by simp) h0').mono (R' := fun e w' => e = .returned (.slice (some ⟨w.heap.size + 3, 0, none⟩) 2 2) ∧ Below w.heap.size w w' ∧ St c cs tc w.heap.size (w.heap.size + 3) text w') (by
    rintro e w' ⟨rfl, rfl⟩
    refine ⟨by simp, (((((Below.refl _ w).alloc (Nat.le_refl _) _).alloc (by simp) _).alloc (by simp; omega) _).alloc (by simp; omega) _), ?_⟩
    have b1 := (Below.refl w.heap.size w).alloc (Nat.le_refl _) (.cells #[.string text] 42)
    have b2 := b1.alloc (by simp) (.cells #[.iface 40 (.pointer (some ⟨w.heap.size, 0, none⟩))] 37)
    have b3 := b2.alloc (by simp; omega) (.cells #[.iface 40 (.pointer (some ⟨w.heap.size, 0, none⟩))] 37)
    have b4 := b3.alloc (by simp; omega) (.cells #[.iface 40 (.pointer (some c)), .iface 40 (.pointer (some ⟨w.heap.size, 0, none⟩))] 32)
    obtain ⟨g0, g1, g3, gs⟩ := allocs w (.cells #[.string text] 42) (.cells #[.iface 40 (.pointer (some ⟨w.heap.size, 0, none⟩))] 37) (.cells #[.iface 40 (.pointer (some ⟨w.heap.size, 0, none⟩))] 37) (.cells #[.iface 40 (.pointer (some c)), .iface 40 (.pointer (some ⟨w.heap.size, 0, none⟩))] 32)
    refine ⟨(b4.cell (p := ⟨0, 0, none⟩) hz).trans h0, (b4.block _ hlt).trans HC.out, g0, ?_, ?_, ?_, by rw [gs]; omega, by rw [gs]; omega, by rw [gs]; omega, by rw [gs]; omega⟩
    · unfold World.cell?; rw [g1]; rfl
    · unfold World.cell?; rw [g3]; rfl
    · unfold World.cell?; rw [g3]; rfl)
  go_wp2_with (first
    | (go_at_call 17; refine (new17 text w).mono ?_; rintro e w1 ⟨rfl, rfl⟩)
    | (go_at_call 19; refine hun.mono ?_; rintro e w1 ⟨rfl, hb1, hs1⟩; have HB1 := hid hb1; have HS1 := hid hs1; have m0 := hs1.1; have m1 := hs1.2.2.2.1; have m2 := hs1.2.2.2.2.1; have m3 := hs1.2.2.2.2.2.1; clear hb1 hs1)
    | (go_at_call 18; fail))
  have hne : c ≠ ⟨w.heap.size, 0, none⟩ := fun e => by rw [e] at hlt; exact absurd hlt (Nat.lt_irrefl _)
  have hne' : (⟨w.heap.size, 0, none⟩ : Addr) ≠ c := fun e => hne e.symm
  have q1 : ∀ n, Calls Tryd.prog 18 #[.iface 40 (.pointer (some c)), .iface 40 (.pointer (some ⟨w.heap.size, 0, none⟩))] (w1.drewN n) fun e w' => e = .returned (.bool false) ∧ w' = w1.drewN n := fun n => isOtherQ c ⟨w.heap.size, 0, none⟩ cs #[.string text] tc 42 (w1.drewN n) hne HS1.out.2.1 HS1.out.2.2.1
  have q2 : ∀ n, Calls Tryd.prog 18 #[.iface 40 (.pointer (some ⟨w.heap.size, 0, none⟩)), .iface 40 (.pointer (some c))] (w1.drewN n) fun e w' => e = .returned (.bool false) ∧ w' = w1.drewN n := fun n => isOtherQ ⟨w.heap.size, 0, none⟩ c #[.string text] cs 42 tc (w1.drewN n) hne' HS1.out.2.2.1 HS1.out.2.1
  go_quiet (first
    | (go_at_call_of 18 (Value.iface 40 (.pointer (some ⟨w.heap.size, 0, none⟩))); exact Calls.quiet_of_same (q1 _))
    | (go_at_call 18; exact Calls.quiet_of_same (isSameQ c _)))
  go_wp2
  obtain ⟨w2, hw2⟩ : ∃ w2, w2 = w1.drewN nq := ⟨_, rfl⟩
  rw [← hw2]
  have HS2 : Hid (St c cs tc w.heap.size (w.heap.size + 3) text w2) := by rw [hw2]; exact HS1.out.later (belowDrewN (Below.refl _ w1) _)
  have HB2 : Hid (Below w.heap.size w w2) := by rw [hw2]; exact belowDrewN HB1.out _
  clear hw2 q1 q2 m0 m1 m2 m3
  have m0 := HS2.out.1
  have m1 := HS2.out.2.2.2.1
  have m2 := HS2.out.2.2.2.2.1
  have m3 := HS2.out.2.2.2.2.2.1
  have q3 : ∀ n, Calls Tryd.prog 18 #[.iface 40 (.pointer (some ⟨w.heap.size, 0, none⟩)), .iface 40 (.pointer (some c))] (w2.drewN n) fun e w' => e = .returned (.bool false) ∧ w' = w2.drewN n := fun n => isOtherQ ⟨w.heap.size, 0, none⟩ c #[.string text] cs 42 tc (w2.drewN n) hne' HS2.out.2.2.1 HS2.out.2.1
  go_quiet (first
    | (go_at_call_of 18 (Value.iface 40 (.pointer (some c))); exact Calls.quiet_of_same (q3 _))
    | (go_at_call 18; exact Calls.quiet_of_same (isSameQ ⟨w.heap.size, 0, none⟩ _)))
  go_wp2
  obtain ⟨w3, hw3⟩ : ∃ w3, w3 = w2.drewN nq := ⟨_, rfl⟩
  rw [← hw3]
  have HS3 : St c cs tc w.heap.size (w.heap.size + 3) text w3.drew := by rw [hw3]; exact (HS2.out.later (belowDrewN (Below.refl _ w2) _)).drew
  have HB3 : Hid (Below w.heap.size w w3.drew) := by rw [hw3]; exact (belowDrewN HB2.out _).drew
  clear hw3 q3 m0 m1 m2 m3 hun HS1 HB1 HS2 HB2
  have m0 := HS3.1
  have m1 := HS3.2.2.2.1
  go_region_held3 (fun w' => w'.cell? ⟨0, 0, none⟩ = some (.iface 40 (.pointer (some c))) ∧ w'.cell? ⟨w.heap.size + 1, 0, none⟩ = some (.iface 40 (.pointer (some ⟨w.heap.size, 0, none⟩))))
    (first | exact ⟨m70, m71⟩ | exact ⟨m60, m61⟩ | exact ⟨m50, m51⟩ | exact ⟨m40, m41⟩ | exact ⟨m0, m1⟩ | go_keep)
    (first
      | (go_at_call_of 18 (Value.iface 40 (.pointer (some c))); refine (kMark hne _ HS3).mono ?_; rintro e w4 ⟨rfl, hb4⟩; have HS4 := HS3.later hb4; have HB4 := hid (HB3.out.trans (hb4.mono HB3.out.size)); have m40 := HS4.1; have m41 := HS4.2.2.2.1; clear hb4)
      | (go_at_call_of 18 (Value.iface 40 (.pointer (some ⟨b6, 0, none⟩))); refine (kOther hne _ HS6 b6 #[.string other] hr6 hc6 hn6).mono ?_; rintro e w7 ⟨rfl, hb7⟩; have HS7 := HS6.later hb7; have HB7 := hid (HB6.out.trans (hb7.mono HB6.out.size)); have m70 := HS7.1; have m71 := HS7.2.2.2.1; clear hb7)
      | (go_at_call 17; refine (new17' other _ HS5).mono ?_; rintro e w6 ⟨b6, rfl, hb6, hr6, hc6, hn6⟩; have HS6 := HS5.later hb6; have HB6 := hid (HB5.out.trans (hb6.mono HB5.out.size)); have m60 := HS6.1; have m61 := HS6.2.2.2.1; clear hb6)
      | (go_at_call 18; refine (kCause hne _ HS4).mono ?_; rintro e w5 ⟨rfl, hb5⟩; have HS5 := HS4.later hb5; have HB5 := hid (HB4.out.trans (hb5.mono HB4.out.size)); have m50 := HS5.1; have m51 := HS5.2.2.2.1; clear hb5))
  go_wp2
  (try simp only [Exit.inBlock, Exit.then])
  refine bodyPost_ret (results_tmp6 rfl _ _ _) rfl ?_
  exact ⟨rfl, HB7.out⟩

end Go.Proofs.Qxb6607686aDoor
