/-
  autnumSelf: a range over children.
-/
import Derived.Test.Qxb6605806aIter
import Derived.Sort.CutIn
namespace Go.Proofs.Qxb6605806a
open Go.RowKit Go.Shelf
set_option linter.unusedVariables false
set_option linter.unusedSimpArgs false
attribute [local go_sem] Oper.semAt_some

set_option maxHeartbeats 400000 in
theorem children26 (s : Value) (hs : s.oneCell' = true) (i : Int) (w : World) (v : Option Addr) (n c : Nat) (hv : s = .slice v n c) :
    Calls Try.prog 26 #[.agg #[s], .int .i64 i] w fun e w' => e = .returned (.func (.func 27) #[] #[.pointer (some ⟨w.heap.size + 1, 0, none⟩), .pointer (some ⟨w.heap.size, 0, none⟩)]) ∧ w' = (w.alloc (.cells #[s] 47)).alloc (.cells #[.int .i64 i] 3) := by
  subst hv
  go_enter Try.func26, Try.ntmps26
  go_wp2
  go_ret
  exact ⟨rfl, rfl⟩


/-- How the body of a round over the child j may be left. -/
def childPost (n : Nat) (F L : Nat → Int) (X : Nat → Prop) (I : Nat → World → Prop) (Ix : Code → World → Prop) (j : Nat) (W : World) : Exit → Act → World → Prop
  | .normal, _, W' => KeepX X W W' ∧ ∀ j', j < j' → j' ≤ n → (∀ d, j < d → d < j' → F d ≤ L j) → (j' < n → L j < F j') → I j' W'
  | .ret, _, W' => KeepX X W W' ∧ Ix .ret W'
  | .exit id, _, W' => KeepX X W W' ∧ Ix (.exit id) W'
  | _, _, _ => False

theorem below_putObj {B : Nat} {W : World} {l : Nat} (o : Obj) (hB : B ≤ l) (hl : l < W.heap.size) : Below B W (W.putObj l o) :=
  (Below.refl B W).grown (grownBy_putObj' W l o) (by omega) (fun k e => by cases e; exact hB)

theorem KeepX.putObj {X : Nat → Prop} {W : World} {l : Nat} (o : Obj) (hl : X l) : KeepX X W (W.putObj l o) := by
  have h := (below_putObj (B := 0) (W := W) (l := l) o (Nat.zero_le _))
  refine ⟨by simp [World.putObj], fun k hk hx => World.putObj_heap_other (fun e => hx (by rw [e]; exact hl))⟩

theorem KeepX.widen {X Y : Nat → Prop} {A B : World} (h : KeepX X A B) (hy : ∀ k, X k → Y k) : KeepX Y A B := ⟨h.1, fun k hk hn => h.2 k hk (fun hx => hn (hy k hx))⟩

set_option maxHeartbeats 1000000 in
/-- THE STATEMENT 'for c := range n.children(i)', by an invariant of the caller's own boxes and one walk of the body. -/
theorem range_children {g : Operand} {assign body : Code} {Q : Exit → Act → World → Prop} {a : Act} {w : World} {m p S n i bi bn : Nat} {F L Pa : Nat → Int} (hm : 2 ≤ m)
    (hg : a.eval g = .func (.func 27) #[] #[.pointer (some ⟨bi, 0, none⟩), .pointer (some ⟨bn, 0, none⟩)])
    (hn : n ≤ 4096) (hi : i < n) (hmono : ∀ a b, a ≤ b → b < n → F a ≤ F b) (hbi : Boxed w bi 3 (.int .i64 i)) (hbn : Boxed w bn 47 (.slice (some ⟨S, 0, none⟩) n n)) (hs : SpansAt w S n F L Pa)
    (X : Nat → Prop) (hX : ∀ k, X k → k < w.heap.size) (hXi : ¬ X bi) (hXn : ¬ X bn) (hXS : ¬ X S)
    (I : Nat → World → Prop) (Ix : Code → World → Prop) (hI : ∀ j A B, I j A → Below w.heap.size A B → I j B) (hIx : ∀ c A B, Ix c A → Below w.heap.size A B → Ix c B) (h0 : I (i + 1) w) (a₁ : Nat → Act)
    (hassign : ∀ (l j : Nat) (W : World) (K : Act → World → Prop), K (a₁ j) W → assign.wpIn (Fence.wide.inRound l) (m - 1 - 1) Try.prog (Exit.then K (fun _ _ _ => False)) { tmps := a.tmps.setIfInBounds p (.pointer (some ⟨S, j * 7, none⟩)), defers := [] } W)
    (hbody : ∀ (l j : Nat) (W : World), I j W → i < j → j < n → Pa j = (i : Int) → body.wpIn (Fence.wide.inRound l) (m - 1 - 1) Try.prog (childPost n F L X I Ix j W) (a₁ j) W)
    (hdone : ∀ (D j : Nat) (W : World), w.heap.size ≤ D → D < W.heap.size → i < j → j ≤ n → ¬ (j < n ∧ Pa j = (i : Int)) → I j W → W.heap[D]? = some (.deferred (some [])) → Q .normal { a with defers := { target := .collected D, args := #[] } :: a.defers } W)
    (hstop : ∀ (D : Nat) (c : Code) (W : World), w.heap.size ≤ D → D < W.heap.size → Ix c W → W.heap[D]? = some (.deferred (some [])) → c.wpIn Fence.wide m Try.prog Q { a with defers := { target := .collected D, args := #[] } :: a.defers } W) :
    (Code.rangeFunc g #[p] assign body).wpIn Fence.wide m Try.prog Q a w := by
  refine wpIn_rangeFunc ?_
  intro fn hfn
  obtain ⟨rec, hrec⟩ : ∃ rec : LoopState → Option Code → Loop, rec = fun st pe => { state := st, pending := pe, fn, tmps := a.tmps, params := #[p], assign, body, defers := w.heap.size } := ⟨_, rfl⟩
  obtain ⟨W1, hW1⟩ : ∃ W1, (w.alloc (.deferred (some []))).alloc (.loop (rec .ready none)) = W1 := ⟨_, rfl⟩
  have hsz1 : W1.heap.size = w.heap.size + 2 := by rw [← hW1]; simp
  have hL1 : W1.heap[w.heap.size + 1]? = some (.loop (rec .ready none)) := by
    rw [← hW1]; have := World.alloc_heap_new (w.alloc (.deferred (some []))) (.loop (rec .ready none)); rwa [World.size_alloc] at this
  have hK1 : W1.heap[w.heap.size]? = some (.deferred (some [])) := by
    rw [← hW1]; exact (Below.heap_alloc _ _ _ (by simp)).trans (World.alloc_heap_new w _)
  have hb1 : Below w.heap.size w W1 := by rw [← hW1]; exact ((Below.refl _ w).alloc (Nat.le_refl _) _).alloc (by simp) _
  have eg : ∀ args w, (callFunc 27 args).run Try.prog w = .ok (.enter 27 args) w := enters_of Try.func27 (by kernel_rfl) rfl
  refine ⟨w.heap.size + 1, [{ target := .collected w.heap.size, args := #[] }], W1, { target := .fn (.func 27) #[.pointer (some ⟨bi, 0, none⟩), .pointer (some ⟨bn, 0, none⟩)], args := #[.func (.yield (w.heap.size + 1)) #[] #[]] }, W1, 27,
    #[.func (.yield (w.heap.size + 1)) #[] #[], .pointer (some ⟨bi, 0, none⟩), .pointer (some ⟨bn, 0, none⟩)], W1, ?_, ?_, ?_, ?_, fun _ => by omega, ?_⟩
  · rw [← hW1, hrec]; exact run_enterLoop_outer _ _ _ _ _
  · simp only [resolve, hg]
    simp [go_sem]
  · intro f' hf'; exact trivial
  · simp [invoke, go_sem, eg]
  · have hbx : ∀ (b : Nat) (t : TypeId) (v : Value), Boxed w b t v → Boxed W1 b t v := fun b t v h => (hb1.block b h.lt).trans h
    refine (iter27 (m - 1) (w.heap.size + 1) S n i bi bn F L Pa W1 (fun k => X k ∨ k = w.heap.size + 1)
      (fun j W => I j W ∧ W.heap[w.heap.size + 1]? = some (.loop (rec .ready none)) ∧ W.heap[w.heap.size]? = some (.deferred (some [])))
      (fun W => ∃ c, Ix c W ∧ W.heap[w.heap.size + 1]? = some (.loop (rec .done (some c))) ∧ W.heap[w.heap.size]? = some (.deferred (some [])))
      (by omega) hn hi hmono (hbx _ _ _ hbi) (hbx _ _ _ hbn) (hs.later (hb1.block S hs.1)) ?_ ?_ ?_ ?_ ?_ ?_ ?_ ?_).mono ?_
    · rintro (h | h)
      · exact hXi h
      · have := hbi.lt; omega
    · rintro (h | h)
      · exact hXn h
      · have := hbn.lt; omega
    · rintro (h | h)
      · exact hXS h
      · have := hs.1; omega
    · rintro k hk (h | h)
      · have := hX k h; omega
      · omega
    · rintro j A B ⟨q1, q2, q3⟩ hAB
      exact ⟨hI j A B q1 (hAB.mono (by omega)), (hAB.block _ (by omega)).trans q2, (hAB.block _ (by omega)).trans q3⟩
    · rintro A B ⟨c, q1, q2, q3⟩ hAB
      exact ⟨c, hIx c A B q1 (hAB.mono (by omega)), (hAB.block _ (by omega)).trans q2, (hAB.block _ (by omega)).trans q3⟩
    · rintro j W ⟨hiv, hl, hk⟩ hij hjn hpj
      have hlt : w.heap.size + 1 < W.heap.size := (Array.getElem?_eq_some_iff.1 hl).1
      have hy := run_yield (P := Try.prog) (args := #[.pointer (some ⟨S, j * 7, none⟩)]) hl (by rw [hrec]; rfl)
      rw [hrec] at hy
      refine ⟨fn, a.tmps.setIfInBounds p (.pointer (some ⟨S, j * 7, none⟩)), assign, body, (by simpa using hy), roundIn_of_wpIn hfn ?_⟩
      refine hassign _ j W _ ?_
      refine ⟨_, run_beginRound hl (by rw [hrec]), ?_⟩
      have hl2 : (W.putObj (w.heap.size + 1) (.loop { rec .ready none with state := .busy })).heap[w.heap.size + 1]? = some (.loop { rec .ready none with state := .busy }) := World.putObj_heap_same hlt
      have hk2 : (W.putObj (w.heap.size + 1) (.loop { rec .ready none with state := .busy })).heap[w.heap.size]? = some (.deferred (some [])) := (World.putObj_heap_other (by omega)).trans hk
      have hw2 : KeepX (fun k => X k ∨ k = w.heap.size + 1) W (W.putObj (w.heap.size + 1) (.loop { rec .ready none with state := .busy })) := KeepX.putObj _ (.inr rfl)
      have hsz2 : (W.putObj (w.heap.size + 1) (.loop { rec .ready none with state := .busy })).heap.size = W.heap.size := by simp [World.putObj]
      refine wpIn_mono (hbody _ j _ (hI _ _ _ hiv (below_putObj _ (by omega) hlt)) hij hjn hpj) ?_
      have fin : ∀ (jump : Option Code) (W3 : World), KeepX X (W.putObj (w.heap.size + 1) (.loop { rec .ready none with state := .busy })) W3 →
          (Instr.endRound (w.heap.size + 1) jump).run Try.prog W3 = .ok (.bool jump.isNone) (W3.putObj (w.heap.size + 1) (.loop (rec (if jump.isNone then .ready else .done) jump))) ∧
          w.heap.size + 1 < W3.heap.size ∧
          (W3.putObj (w.heap.size + 1) (.loop (rec (if jump.isNone then .ready else .done) jump))).heap[w.heap.size + 1]? = some (.loop (rec (if jump.isNone then .ready else .done) jump)) ∧
          (W3.putObj (w.heap.size + 1) (.loop (rec (if jump.isNone then .ready else .done) jump))).heap[w.heap.size]? = some (.deferred (some [])) := fun jump W3 hk3 => by
        have hl3 : W3.heap[w.heap.size + 1]? = some (.loop { rec .ready none with state := .busy }) := (hk3.2 _ (by rw [hsz2]; exact hlt) (fun h => by have := hX _ h; omega)).trans hl2
        have hk3' : W3.heap[w.heap.size]? = some (.deferred (some [])) := (hk3.2 _ (by rw [hsz2]; omega) (fun h => by have := hX _ h; omega)).trans hk2
        have hlt3 := (Array.getElem?_eq_some_iff.1 hl3).1
        have := run_endRound (P := Try.prog) jump hl3
        rw [hrec] at this ⊢
        exact ⟨this, hlt3, World.putObj_heap_same hlt3, (World.putObj_heap_other (by omega)).trans hk3'⟩
      rintro e a3 W3 hp
      cases e with
      | normal =>
        obtain ⟨hk3, hi3⟩ := hp
        obtain ⟨hr, hl3, hl4, hk4⟩ := fin none W3 hk3
        refine ⟨_, _, hr, .inl ⟨rfl, fun j' h1 h2 h3 h4 => ⟨hI _ _ _ (hi3 j' h1 h2 h3 h4) (below_putObj _ (by omega) hl3), hl4, hk4⟩, ?_⟩⟩
        exact (hw2.trans (hk3.widen (fun k h => .inl h))).trans (KeepX.putObj _ (.inr rfl))
      | ret =>
        obtain ⟨hk3, hi3⟩ := hp
        obtain ⟨hr, hl3, hl4, hk4⟩ := fin (some .ret) W3 hk3
        exact ⟨_, _, hr, .inr ⟨rfl, .ret, hIx _ _ _ hi3 (below_putObj _ (by omega) hl3), hl4, hk4⟩⟩
      | exit id =>
        obtain ⟨hk3, hi3⟩ := hp
        obtain ⟨hr, hl3, hl4, hk4⟩ := fin (some (.exit id)) W3 hk3
        exact ⟨_, _, hr, .inr ⟨rfl, .exit id, hIx _ _ _ hi3 (below_putObj _ (by omega) hl3), hl4, hk4⟩⟩
      | goto t => exact hp.elim
      | panic ch => exact hp.elim
      | outgrown => exact hp.elim
    · exact ⟨hI _ _ _ h0 hb1, hL1, hK1⟩
    · rintro e W2 ⟨⟨v, rfl⟩, (⟨j, hij, hjn, hno, hiv, hl, hk⟩ | ⟨c, hiv, hl, hk⟩)⟩
      · have hlt := (Array.getElem?_eq_some_iff.1 hl).1
        exact ⟨none, _, by have := run_endLoop (P := Try.prog) hl (by rw [hrec]; simp); rw [hrec] at this; exact this, hdone _ j _ (Nat.le_refl _) (by simp [World.putObj]; omega) hij hjn hno (hI _ _ _ hiv (below_putObj _ (by omega) hlt)) ((World.putObj_heap_other (by omega)).trans hk)⟩
      · have hlt := (Array.getElem?_eq_some_iff.1 hl).1
        exact ⟨some c, _, by have := run_endLoop (P := Try.prog) hl (by rw [hrec]; simp); rw [hrec] at this; exact this, hstop _ c _ (Nat.le_refl _) (by simp [World.putObj]; omega) (hIx _ _ _ hiv (below_putObj _ (by omega) hlt)) ((World.putObj_heap_other (by omega)).trans hk)⟩

theorem KeepX.setCell {X : Nat → Prop} {W : World} {b : Nat} (v : Value) (hb : X b) : KeepX X W (W.setCell ⟨b, 0, none⟩ v) := by
  have h := grownBy_setCell' W b v
  exact ⟨(KeepsWalks.setCell W ⟨b, 0, none⟩ v).size, fun k _ hx => Below.heap_setCell _ _ _ k (fun e => hx (by rw [e]; exact hb))⟩

set_option maxRecDepth 100000 in
set_option maxHeartbeats 2000000 in
theorem self23 (S n i : Nat) (F L Pa : Nat → Int) (w : World) (hn : n ≤ 4096) (hi : i < n) (hwf : WF n F L Pa) (hu : ∀ k, k < n → 0 ≤ F k ∧ F k ≤ 4294967295 ∧ 0 ≤ L k ∧ L k ≤ 4294967295) (hs : SpansAt w S n F L Pa) :
    CallsIn Fence.wide 5 Try.prog 23 #[.agg #[.slice (some ⟨S, 0, none⟩) n n], .int .i64 i] w fun e w' => (∃ r, e = .returned (.int .u32 r) ∧ Ans n F L i r) ∧ Below w.heap.size w w' := by
  have HWF := hid hwf
  have HU := hid hu
  have HS := hid hs
  have s0 := (hs.2 i hi).1
  have hS := hs.1
  clear hwf hu hs
  have hS1 : S < w.heap.size + 1 := by omega
  have hS2 : S < w.heap.size + 1 + 1 := by omega
  have hS3 : S < w.heap.size + 1 + 1 + 1 := by omega
  have i0 : (0 : Int) ≤ (i : Int) := by omega
  have i1 : (i : Int) < (n : Int) := by omega
  refine callsIn_of_wp_marks Try.func23 rfl trivial ?_ rfl
  simp only [Try.ntmps23, List.size_toArray, List.length_cons, List.length_nil, Nat.reduceAdd, Nat.reduceSub, Array.replicate_succ, Array.replicate_zero, List.push_toArray, List.append_toArray, List.nil_append, List.cons_append]
  gi_wp2_with (refine ⟨trivial, ?_⟩; gi_at_call 26; refine ((callsIn_wide (n := 4)).2 (children26 _ rfl _ _ _ _ _ rfl)).mono ?_; rintro e w' ⟨rfl, rfl⟩)
  obtain ⟨B, hB⟩ : ∃ B, w.heap.size = B := ⟨_, rfl⟩
  have HBs := hid hB
  obtain ⟨W0, hW0⟩ : ∃ W0, ((((((w.alloc (.cells #[.slice (some ⟨S, 0, none⟩) n n] 47)).alloc (.cells #[.int .u32 0] 39)).alloc (.cells #[.pointer (some ⟨S, i * 7, none⟩)] 51)).alloc (.cells #[.int .u32 (F i)] 39)).alloc (.cells #[.slice (some ⟨S, 0, none⟩) n n] 47)).alloc (.cells #[.int .i64 i] 3)) = W0 := ⟨_, rfl⟩
  have hbel0 : Below w.heap.size w W0 := by
    rw [← hW0]
    exact ((((((Below.refl _ w).alloc (Nat.le_refl _) _).alloc (by simp) _).alloc (by simp; omega) _).alloc (by simp; omega) _).alloc (by simp; omega) _).alloc (by simp; omega) _
  have hsz0 : W0.heap.size = B + 6 := by rw [← hW0]; simp [hB]
  have x1 : Boxed W0 (B + 1) 39 (.int .u32 0) := by
    rw [← hW0, ← hB]
    have h := Boxed.new (w.alloc (.cells #[.slice (some ⟨S, 0, none⟩) n n] 47)) 39 (.int .u32 0)
    rw [World.size_alloc] at h
    exact (((h.alloc _).alloc _).alloc _).alloc _
  have x2 : Boxed W0 (B + 1 + 1) 51 (.pointer (some ⟨S, i * 7, none⟩)) := by
    rw [← hW0, ← hB]
    have h := Boxed.new ((w.alloc (.cells #[.slice (some ⟨S, 0, none⟩) n n] 47)).alloc (.cells #[.int .u32 0] 39)) 51 (.pointer (some ⟨S, i * 7, none⟩))
    simp only [World.size_alloc] at h
    exact ((h.alloc _).alloc _).alloc _
  have x3 : Boxed W0 (B + 1 + 1 + 1) 39 (.int .u32 (F i)) := by
    rw [← hW0, ← hB]
    have h := Boxed.new (((w.alloc (.cells #[.slice (some ⟨S, 0, none⟩) n n] 47)).alloc (.cells #[.int .u32 0] 39)).alloc (.cells #[.pointer (some ⟨S, i * 7, none⟩)] 51)) 39 (.int .u32 (F i))
    simp only [World.size_alloc] at h
    exact (h.alloc _).alloc _
  have x4 : Boxed W0 (B + 1 + 1 + 1 + 1) 47 (.slice (some ⟨S, 0, none⟩) n n) := by
    rw [← hW0, ← hB]
    have h := Boxed.new ((((w.alloc (.cells #[.slice (some ⟨S, 0, none⟩) n n] 47)).alloc (.cells #[.int .u32 0] 39)).alloc (.cells #[.pointer (some ⟨S, i * 7, none⟩)] 51)).alloc (.cells #[.int .u32 (F i)] 39)) 47 (.slice (some ⟨S, 0, none⟩) n n)
    simp only [World.size_alloc] at h
    exact h.alloc _
  have x5 : Boxed W0 (B + 1 + 1 + 1 + 1 + 1) 3 (.int .i64 i) := by
    rw [← hW0, ← hB]
    have h := Boxed.new (((((w.alloc (.cells #[.slice (some ⟨S, 0, none⟩) n n] 47)).alloc (.cells #[.int .u32 0] 39)).alloc (.cells #[.pointer (some ⟨S, i * 7, none⟩)] 51)).alloc (.cells #[.int .u32 (F i)] 39)).alloc (.cells #[.slice (some ⟨S, 0, none⟩) n n] 47)) 3 (.int .i64 i)
    simp only [World.size_alloc] at h
    exact h
  have HS0 := HS.out.later (hbel0.block S hS)
  rw [hW0, hB]
  have hSB : S < B := by omega
  have HB0 := hid hbel0
  clear hW0 s0 hS1 hS2 hS3 hbel0
  refine range_children (p := 19) (S := S) (n := n) (i := i) (F := F) (L := L) (Pa := Pa) (by omega) rfl hn hi HWF.out.mono x5 x4 HS0 (fun k => k = B + 1 ∨ k = B + 1 + 1 + 1) (by rintro k (rfl | rfl) <;> omega) (by rintro (h | h) <;> omega) (by rintro (h | h) <;> omega) (by rintro (h | h) <;> omega)
    (fun j W => ∃ nx, Self n F L i j nx ∧ Boxed W (B + 1 + 1 + 1) 39 (.int .u32 nx) ∧ Boxed W (B + 1) 39 (.int .u32 0) ∧ Boxed W (B + 1 + 1) 51 (.pointer (some ⟨S, i * 7, none⟩)) ∧ SpansAt W S n F L Pa ∧ Below w.heap.size w W)
    (fun c W => Below w.heap.size w W ∧ ((c = .exit 0 ∧ ∃ nx, Ans n F L i nx ∧ Boxed W (B + 1 + 1 + 1) 39 (.int .u32 nx) ∧ Boxed W (B + 1) 39 (.int .u32 0)) ∨ (c = .ret ∧ ∃ r, Ans n F L i r ∧ Boxed W (B + 1) 39 (.int .u32 r))))
    ?hI ?hIx ⟨F i, self_start HWF.out hi, x3, x1, x2, HS0, HB0.out⟩
    (fun j => { tmps := #[.agg #[.slice (some ⟨S, 0, none⟩) n n], .int .i64 i, .pointer (some ⟨B, 0, none⟩), undef, .pointer (some ⟨B + 1, 0, none⟩), .pointer (some ⟨B + 1 + 1, 0, none⟩), .pointer (some ⟨B + 1 + 1 + 1, 0, none⟩), .pointer (some ⟨S, j * 7, none⟩),
      .pointer (some ⟨B, 0, none⟩), .slice (some ⟨S, 0, none⟩) n n, .int .i64 i, .pointer (some ⟨S, i * 7, none⟩), .pointer (some ⟨S, i * 7, none⟩), .pointer (some ⟨S, i * 7, none⟩), .pointer (some ⟨S, i * 7, none⟩), .int .u32 (F i), .agg #[.slice (some ⟨S, 0, none⟩) n n], .int .i64 i,
      .func (.func 27) #[] #[.pointer (some ⟨B + 1 + 1 + 1 + 1 + 1, 0, none⟩), .pointer (some ⟨B + 1 + 1 + 1 + 1, 0, none⟩)], .pointer (some ⟨S, j * 7, none⟩),
      undef, undef, undef, undef, undef, undef, undef, undef, undef, undef, undef, undef, undef, undef, undef, undef, undef, undef, undef, undef, undef, undef, undef, undef, undef], defers := [] }) ?assign ?body ?done ?stop
  case hI =>
    rintro j A C ⟨nx, q1, q2, q3, q4, q5, q6⟩ hAC
    have hb : ∀ (b : Nat) (t : TypeId) (v : Value), b < B + 6 → Boxed A b t v → Boxed C b t v := fun b t v hlt h => (hAC.block b (by omega)).trans h
    exact ⟨nx, q1, hb _ _ _ (by omega) q2, hb _ _ _ (by omega) q3, hb _ _ _ (by omega) q4, q5.later (hAC.block S (by omega)), q6.trans (hAC.mono (by omega))⟩
  case hIx =>
    rintro c A C ⟨q6, q⟩ hAC
    have hb : ∀ (b : Nat) (t : TypeId) (v : Value), b < B + 6 → Boxed A b t v → Boxed C b t v := fun b t v hlt h => (hAC.block b (by omega)).trans h
    refine ⟨q6.trans (hAC.mono (by omega)), ?_⟩
    rcases q with ⟨e, nx, q1, q2, q3⟩ | ⟨e, r, q1, q2⟩
    · exact .inl ⟨e, nx, q1, hb _ _ _ (by omega) q2, hb _ _ _ (by omega) q3⟩
    · exact .inr ⟨e, r, q1, hb _ _ _ (by omega) q2⟩
  case assign =>
    intro l j W K hK
    gi_wp2
    exact hK
  case body =>
    rintro l j W ⟨nx, q1, q2, q3, q4, q5, q6⟩ hij hj hp
    have c3 := q2.cell
    have f3 := q2.frozen
    have c1 := q3.cell
    have f1 := q3.frozen
    have c2 := q4.cell
    obtain ⟨j1, j2, _⟩ := q5.2 j hj
    obtain ⟨i1', i2', _⟩ := q5.2 i hi
    have Q1 := hid q1
    have Q2 := hid q2
    have Q3 := hid q3
    have Q4 := hid q4
    have Q5 := hid q5
    have Q6 := hid q6
    have HP := hid hp
    clear q1 q2 q3 q4 q5 q6 hp x1 x2 x3 x4 x5 HS0
    by_cases h1 : nx < F j
    · have HA := hid (self_gap HWF.out Q1.out hj h1)
      gi_wp2
      gi_region
      all_goals gi_wp2
      all_goals (
        have hb := (Below.refl W.heap.size W).drew
        exact ⟨KeepX.below hb (Nat.le_refl _), Q6.out.trans (hb.mono Q6.out.size), .inl ⟨rfl, nx, HA.out, (hb.block _ Q2.out.lt).trans Q2.out, (hb.block _ Q3.out.lt).trans Q3.out⟩⟩)
    · gi_wp2
      gi_cut [25] from 20 (fun s25 wx => s25 = .bool (decide (nx < F j)) ∧ wx = W.drew)
      case first =>
        gi_region
        all_goals gi_wp2
        all_goals gi_meet
        all_goals exact ⟨rfl, rfl⟩
      obtain ⟨rfl, rfl⟩ := hcut
      gi_wp2
      gi_cut [34] from 20 (fun s34 wx => s34 = .bool (L j == L i) ∧ wx = W.drew.drew)
      case first =>
        gi_region
        all_goals gi_wp2
        all_goals gi_meet
        all_goals exact ⟨rfl, rfl⟩
      obtain ⟨rfl, rfl⟩ := hcut
      by_cases h2 : L j = L i
      · have HA := hid (self_full Q1.out hj (by omega) h2 (HWF.out.le i hi))
        have h2' : (L j == L i) = true := by simpa using h2
        gi_wp2
        have hd := ((Below.refl (W.setCell ⟨B + 1, 0, none⟩ (.int .u32 (F i))).heap.size (W.setCell ⟨B + 1, 0, none⟩ (.int .u32 (F i)))).drew).drew
        have hx := Q3.out.set (.int .u32 (F i))
        exact ⟨(KeepX.setCell _ (.inl rfl)).trans (KeepX.below hd (Nat.le_refl _)), ((Q6.out.setCell (p := ⟨B + 1, 0, none⟩) (by simp; omega) _).drew).drew, .inr ⟨rfl, F i, HA.out, (hd.block _ hx.lt).trans hx⟩⟩
      · have h2' : (L j == L i) = false := by simpa using h2
        obtain ⟨u1, u2, u3, u4⟩ := HU.out j hj
        obtain ⟨v1, v2, v3, v4⟩ := HU.out i hi
        obtain ⟨cc1, cc2⟩ := child_in HWF.out hij hj HP.out
        gi_wp2
        have hd := ((Below.refl (W.setCell ⟨B + 1 + 1 + 1, 0, none⟩ (.int .u32 (L j + 1))).heap.size (W.setCell ⟨B + 1 + 1 + 1, 0, none⟩ (.int .u32 (L j + 1)))).drew).drew
        have hx := Q2.out.set (.int .u32 (L j + 1))
        have hy := Q3.out.other (B' := B + 1 + 1 + 1) (by omega) (.int .u32 (L j + 1))
        have hz := Q4.out.other (B' := B + 1 + 1 + 1) (by omega) (.int .u32 (L j + 1))
        have hW : Below (B + 1) W (W.setCell ⟨B + 1 + 1 + 1, 0, none⟩ (.int .u32 (L j + 1))).drew.drew := (((Below.refl _ W).setCell (p := ⟨B + 1 + 1 + 1, 0, none⟩) (by simp) _).drew).drew
        refine ⟨(KeepX.setCell _ (.inr rfl)).trans (KeepX.below hd (Nat.le_refl _)), fun j' k1 k2 k3 k4 => ⟨L j + 1, self_next HWF.out Q1.out hj HP.out (by omega) h2 k1 k2 k3 k4, (hd.block _ hx.lt).trans hx, (hd.block _ hy.lt).trans hy, (hd.block _ hz.lt).trans hz, Q5.out.later (hW.block S (by omega)), ((Q6.out.setCell (p := ⟨B + 1 + 1 + 1, 0, none⟩) (by simp; omega) _).drew).drew⟩⟩
  case done =>
    rintro D j W hD hDW hij hjn hno ⟨nx, q1, q2, q3, q4, q5, q6⟩ hK
    have HA := hid (self_out HWF.out q1 hno)
    have c3 := q2.cell
    have c1 := q3.cell
    have f1 := q3.frozen
    have Q3 := hid q3
    have Q6 := hid q6
    have HK := hid hK
    clear q1 q2 q3 q4 q5 q6 hK x1 x2 x3 x4 x5 HS0
    gi_wp2
    have hK' := (KeepsOthers.setCell W ⟨B + 1, 0, none⟩ (.int .u32 nx)).same D _ HK.out rfl
    refine ⟨by simp, .inl ⟨_, _, rfl, run_takeDeferred hK', ?_⟩⟩
    have hc5 := cell_kept ((Q3.out.set (.int .u32 nx)).cell) (grownBy_putObj' _ D (.deferred none)) (fun r e => by cases e; exact ⟨_, hK', rfl⟩)
    refine ⟨.int .u32 nx, ?_, ⟨nx, rfl, HA.out⟩, (Q6.out.setCell (p := ⟨B + 1, 0, none⟩) (by simp; omega) _).trans (belowK_b (w := w) (Nat.le_refl _) _ D _ _ (by omega) hK' rfl rfl)⟩
    simp [results, Try.f23, go_sem, hc5]
  case stop =>
    rintro D c W hD hDW ⟨q6, q⟩ hK
    have Q6 := hid q6
    have HK := hid hK
    clear q6 hK x1 x2 x3 x4 x5 HS0
    rcases q with ⟨rfl, nx, q1, q2, q3⟩ | ⟨rfl, r, q1, q2⟩
    · have HA := hid q1
      have c3 := q2.cell
      have c1 := q3.cell
      have f1 := q3.frozen
      have Q3 := hid q3
      clear q1 q2 q3
      gi_wp2
      have hK' := (KeepsOthers.setCell W ⟨B + 1, 0, none⟩ (.int .u32 nx)).same D _ HK.out rfl
      refine ⟨by simp, .inl ⟨_, _, rfl, run_takeDeferred hK', ?_⟩⟩
      have hc5 := cell_kept ((Q3.out.set (.int .u32 nx)).cell) (grownBy_putObj' _ D (.deferred none)) (fun r e => by cases e; exact ⟨_, hK', rfl⟩)
      refine ⟨.int .u32 nx, ?_, ⟨nx, rfl, HA.out⟩, (Q6.out.setCell (p := ⟨B + 1, 0, none⟩) (by simp; omega) _).trans (belowK_b (w := w) (Nat.le_refl _) _ D _ _ (by omega) hK' rfl rfl)⟩
      simp [results, Try.f23, go_sem, hc5]
    · have HA := hid q1
      have c1 := q2.cell
      have Q2 := hid q2
      clear q1 q2
      gi_wp2
      refine ⟨by simp, .inl ⟨_, _, rfl, run_takeDeferred HK.out, ?_⟩⟩
      have hc5 := cell_kept Q2.out.cell (grownBy_putObj' _ D (.deferred none)) (fun r e => by cases e; exact ⟨_, HK.out, rfl⟩)
      refine ⟨.int .u32 r, ?_, ⟨r, rfl, HA.out⟩, Q6.out.trans (belowK_b (w := w) (Nat.le_refl _) _ D _ _ (by omega) HK.out rfl rfl)⟩
      simp [results, Try.f23, go_sem, hc5]

end Go.Proofs.Qxb6605806a
