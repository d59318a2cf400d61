/-
  THE PLAIN MATHEMATICS of the nested index of ranges: no Go in sight.
-/
namespace Go.Proofs.Qxb6605806a
set_option linter.unusedVariables false

/-- What zzNestedWellFormed tells of the first n spans. -/
structure WF (n : Nat) (F L Pa : Nat → Int) : Prop where
  le : ∀ j, j < n → F j ≤ L j
  mono : ∀ a b, a ≤ b → b < n → F a ≤ F b
  nest : ∀ a b, a < b → b < n → L a < F b ∨ L b ≤ L a
  par : ∀ b, b < n → (∃ a : Nat, a < b ∧ Pa b = (a : Int) ∧ F b ≤ L a ∧ ∀ c, a < c → c < b → L c < F b) ∨ (Pa b = -1 ∧ ∀ c, c < b → L c < F b)

/-- The stack of open spans, the top first, when j spans have been read. -/
structure Stk (F L : Nat → Int) (j : Nat) (st : List Nat) : Prop where
  lt : ∀ a, a ∈ st → a < j
  down : st.Pairwise (fun a b => b < a)
  up : st.Pairwise (fun a b => L a ≤ L b)
  gone : ∀ a, a < j → a ∉ st → L a < F (j - 1)

theorem wf_zero (F L Pa : Nat → Int) : WF 0 F L Pa :=
  ⟨fun _ h => absurd h (Nat.not_lt_zero _), fun _ _ _ h => absurd h (Nat.not_lt_zero _), fun _ _ _ h => absurd h (Nat.not_lt_zero _), fun _ h => absurd h (Nat.not_lt_zero _)⟩

theorem stk_zero (F L : Nat → Int) : Stk F L 0 [] :=
  ⟨fun _ h => by simp at h, List.Pairwise.nil, List.Pairwise.nil, fun _ h => absurd h (Nat.not_lt_zero _)⟩

/-- All that is not on the popped stack ends ahead of F j. -/
theorem popped_lt {n : Nat} {F L Pa : Nat → Int} {j : Nat} {po st : List Nat} (hS : Stk F L j (po ++ st)) (hpo : ∀ a, a ∈ po → L a < F j) (hm : 0 < j → F (j - 1) ≤ F j) :
    ∀ a, a < j → a ∉ st → L a < F j := by
  intro a ha hn
  by_cases hp : a ∈ po
  · exact hpo a hp
  · have h1 := hS.gone a ha (by rw [List.mem_append]; intro h; rcases h with h | h <;> contradiction)
    have h2 := hm (by omega)
    omega

theorem wf_step {F L Pa : Nat → Int} {j : Nat} {po st : List Nat} (h : WF j F L Pa) (hS : Stk F L j (po ++ st)) (hpo : ∀ a, a ∈ po → L a < F j)
    (h1 : F j ≤ L j) (hm : 0 < j → F (j - 1) ≤ F j) (htop : (st = [] ∧ Pa j = -1) ∨ ∃ t r, st = t :: r ∧ F j ≤ L t ∧ L j ≤ L t ∧ Pa j = (t : Int)) :
    WF (j + 1) F L Pa ∧ Stk F L (j + 1) (j :: st) := by
  have hgone := popped_lt (n := j) (Pa := Pa) hS hpo hm
  have hst : ∀ a, a ∈ st → a < j := fun a ha => hS.lt a (List.mem_append_right _ ha)
  have hdown : st.Pairwise (fun a b => b < a) := (List.pairwise_append.1 hS.down).2.1
  have hup : st.Pairwise (fun a b => L a ≤ L b) := (List.pairwise_append.1 hS.up).2.1
  -- every span still open holds F j and reaches to L j
  have hopen : ∀ a, a ∈ st → F j ≤ L a ∧ L j ≤ L a := by
    intro a ha
    rcases htop with ⟨e, _⟩ | ⟨t, r, e, q1, q2, _⟩
    · rw [e] at ha; simp at ha
    · rw [e] at ha hup
      rcases List.mem_cons.1 ha with rfl | ha
      · exact ⟨q1, q2⟩
      · have := (List.pairwise_cons.1 hup).1 a ha
        exact ⟨by omega, by omega⟩
  refine ⟨⟨?_, ?_, ?_, ?_⟩, ⟨?_, ?_, ?_, ?_⟩⟩
  · intro k hk
    by_cases e : k = j
    · subst e; exact h1
    · exact h.le k (by omega)
  · intro a b hab hb
    by_cases e : b = j
    · subst e
      by_cases e2 : a = b
      · subst e2; exact Int.le_refl _
      · have q1 := h.mono a (b - 1) (by omega) (by omega)
        have q2 := hm (by omega)
        omega
    · exact h.mono a b hab (by omega)
  · intro a b hab hb
    by_cases e : b = j
    · subst e
      by_cases hin : a ∈ st
      · exact .inr (hopen a hin).2
      · exact .inl (hgone a hab hin)
    · exact h.nest a b hab (by omega)
  · intro b hb
    by_cases e : b = j
    · subst e
      rcases htop with ⟨e, q⟩ | ⟨t, r, e, q1, q2, q3⟩
      · exact .inr ⟨q, fun c hc => hgone c hc (by rw [e]; simp)⟩
      · refine .inl ⟨t, hst t (by rw [e]; simp), q3, q1, fun c hc hcb => hgone c hcb ?_⟩
        rw [e]
        intro hm'
        rcases List.mem_cons.1 hm' with rfl | hm'
        · omega
        · rw [e] at hdown
          have := (List.pairwise_cons.1 hdown).1 c hm'
          omega
    · exact h.par b (by omega)
  · intro a ha
    rcases List.mem_cons.1 ha with rfl | ha
    · omega
    · have := hst a ha; omega
  · exact List.pairwise_cons.2 ⟨fun a ha => hst a ha, hdown⟩
  · exact List.pairwise_cons.2 ⟨fun a ha => (hopen a ha).2, hup⟩
  · intro a ha hn
    have hne : a ≠ j := fun e => hn (by rw [e]; simp)
    have := hgone a (by omega) (fun hm' => hn (List.mem_cons_of_mem _ hm'))
    simpa using this

/-! ### inside -/

/-- The walk up the chain of parents from d: where it may stand. -/
def Chain (F L : Nat → Int) (i d : Nat) (k : Int) : Prop :=
  -1 ≤ k ∧ k < (d : Int) ∧ (F d ≤ L i → (i : Int) ≤ k ∧ ∀ m : Nat, k = (m : Int) → i < m → F m ≤ L i) ∧ (L i < F d → k ≠ (i : Int) ∧ ∀ m : Nat, k = (m : Int) → i < m → L i < F m)

theorem chain_par {n : Nat} {F L Pa : Nat → Int} (h : WF n F L Pa) {i d m : Nat} (him : i < m) (hmd : m ≤ d) (hd : d < n) (hw : (F d ≤ L i ∧ F m ≤ L i) ∨ (L i < F d ∧ L i < F m)) : Chain F L i d (Pa m) := by
  rcases h.par m (by omega) with ⟨a, ha, hp, hq, hc⟩ | ⟨hp, hc⟩
  · rw [hp]
    refine ⟨by omega, by omega, fun hdi => ?_, fun hdi => ?_⟩
    · have hmi : F m ≤ L i := by rcases hw with hw | hw <;> omega
      have hge : i ≤ a := by
        apply Classical.byContradiction
        intro hlt
        have := hc i (by omega) him
        omega
      refine ⟨by omega, fun m' hm' hlt => ?_⟩
      have : m' = a := by omega
      subst this
      have := h.mono m' m (by omega) (by omega)
      omega
    · have hmi : L i < F m := by rcases hw with hw | hw <;> omega
      have hne : a ≠ i := by
        intro e; subst e; omega
      refine ⟨by omega, fun m' hm' hlt => ?_⟩
      have : m' = a := by omega
      subst this
      rcases h.nest i m' hlt (by omega) with q | q
      · exact q
      · omega
  · rw [hp]
    refine ⟨by omega, by omega, fun hdi => ?_, fun hdi => ?_⟩
    · have hmi : F m ≤ L i := by rcases hw with hw | hw <;> omega
      have := hc i him
      omega
    · exact ⟨by omega, fun m' hm' hlt => by omega⟩

theorem chain_start {n : Nat} {F L Pa : Nat → Int} (h : WF n F L Pa) {i d : Nat} (hid : i < d) (hd : d < n) : Chain F L i d (Pa d) := by
  refine chain_par h hid (Nat.le_refl _) hd ?_
  by_cases q : F d ≤ L i
  · exact .inl ⟨q, q⟩
  · exact .inr ⟨by omega, by omega⟩

theorem chain_step {n : Nat} {F L Pa : Nat → Int} (h : WF n F L Pa) {i d m : Nat} (hd : d < n) (hC : Chain F L i d (m : Int)) (him : i < m) : Chain F L i d (Pa m) ∧ Pa m < (m : Int) := by
  obtain ⟨_, h2, h3, h4⟩ := hC
  refine ⟨chain_par h him (by omega) hd ?_, ?_⟩
  · by_cases q : F d ≤ L i
    · exact .inl ⟨q, (h3 q).2 m rfl him⟩
    · exact .inr ⟨by omega, (h4 (by omega)).2 m rfl him⟩
  · rcases h.par m (by omega) with ⟨a, ha, hp, _⟩ | ⟨hp, _⟩ <;> omega

theorem chain_end {F L : Nat → Int} {i d : Nat} {k : Int} (hC : Chain F L i d k) (hk : k ≤ (i : Int)) : (k == (i : Int)) = decide (F d ≤ L i) := by
  obtain ⟨_, _, h3, h4⟩ := hC
  by_cases q : F d ≤ L i
  · have := (h3 q).1
    have e : k = (i : Int) := by omega
    simp [e, q]
  · have := (h4 (by omega)).1
    simp [this, q]

/-! ### what is covered -/

def Cov (n : Nat) (F L : Nat → Int) (i : Nat) (x : Int) : Prop := ∃ d, i < d ∧ d < n ∧ F d ≤ x ∧ x ≤ L d

/-- The right answer: the least number of span i that no later span holds; its first, where all are held. -/
def Ans (n : Nat) (F L : Nat → Int) (i : Nat) (r : Int) : Prop :=
  F i ≤ r ∧ r ≤ L i ∧ ((¬ Cov n F L i r ∧ ∀ y, F i ≤ y → y < r → Cov n F L i y) ∨ (r = F i ∧ ∀ y, F i ≤ y → y ≤ L i → Cov n F L i y))

theorem Ans.unique {n : Nat} {F L : Nat → Int} {i : Nat} {r s : Int} (hr : Ans n F L i r) (hs : Ans n F L i s) : r = s := by
  obtain ⟨r1, r2, r3⟩ := hr
  obtain ⟨s1, s2, s3⟩ := hs
  rcases r3 with ⟨ru, rc⟩ | ⟨re, rc⟩
  · rcases s3 with ⟨su, sc⟩ | ⟨se, sc⟩
    · apply Classical.byContradiction
      intro hne
      rcases Int.lt_or_gt_of_ne hne with q | q
      · exact ru (sc r r1 q)
      · exact su (rc s s1 q)
    · exact absurd (sc r r1 r2) ru
  · rcases s3 with ⟨su, sc⟩ | ⟨se, sc⟩
    · exact absurd (rc s s1 s2) su
    · rw [re, se]

/-! ### autnumSelf -/

structure Self (n : Nat) (F L : Nat → Int) (i j : Nat) (nx : Int) : Prop where
  ij : i < j
  jn : j ≤ n
  lo : F i ≤ nx
  hi : nx ≤ L i
  cov : ∀ y, F i ≤ y → y < nx → Cov n F L i y
  past : ∀ d, i < d → d < j → L d < nx
  ends : j < n → ∀ d, i < d → d < j → L d < F j

theorem self_start {n : Nat} {F L Pa : Nat → Int} (h : WF n F L Pa) {i : Nat} (hi : i < n) : Self n F L i (i + 1) (F i) :=
  ⟨by omega, by omega, Int.le_refl _, h.le i hi, fun y h1 h2 => by omega, fun d h1 h2 => by omega, fun _ d h1 h2 => by omega⟩

theorem self_out {n : Nat} {F L Pa : Nat → Int} (h : WF n F L Pa) {i j : Nat} {nx : Int} (s : Self n F L i j nx) (hx : ¬ (j < n ∧ Pa j = (i : Int))) : Ans n F L i nx := by
  refine ⟨s.lo, s.hi, .inl ⟨?_, s.cov⟩⟩
  rintro ⟨d, d1, d2, d3, d4⟩
  by_cases hd : d < j
  · have := s.past d d1 hd
    omega
  · have hj : j < n := by omega
    have hm := h.mono j d (by omega) d2
    have hji : F j ≤ L i := by have := s.hi; omega
    apply hx
    refine ⟨hj, ?_⟩
    have hij := s.ij
    rcases h.par j hj with ⟨a, ha, hp, hq, hc⟩ | ⟨hp, hc⟩
    · have : a = i := by
        apply Classical.byContradiction
        intro hne
        rcases Nat.lt_or_gt_of_ne hne with q | q
        · have := hc i q hij; omega
        · have := s.ends hj a q ha; omega
      rw [hp, this]
    · have := hc i hij; omega

theorem child_in {n : Nat} {F L Pa : Nat → Int} (h : WF n F L Pa) {i j : Nat} (hij : i < j) (hj : j < n) (hp : Pa j = (i : Int)) : F j ≤ L i ∧ L j ≤ L i := by
  rcases h.par j hj with ⟨a, ha, hp', hq, hc⟩ | ⟨hp', _⟩
  · have : a = i := by omega
    subst this
    refine ⟨hq, ?_⟩
    rcases h.nest a j hij hj with q | q
    · omega
    · exact q
  · omega

theorem self_gap {n : Nat} {F L Pa : Nat → Int} (h : WF n F L Pa) {i j : Nat} {nx : Int} (s : Self n F L i j nx) (hj : j < n) (hlt : nx < F j) : Ans n F L i nx := by
  refine ⟨s.lo, s.hi, .inl ⟨?_, s.cov⟩⟩
  rintro ⟨d, d1, d2, d3, d4⟩
  by_cases hd : d < j
  · have := s.past d d1 hd; omega
  · have := h.mono j d (by omega) d2; omega

theorem self_full {n : Nat} {F L : Nat → Int} {i j : Nat} {nx : Int} (s : Self n F L i j nx) (hj : j < n) (hge : F j ≤ nx) (hl : L j = L i) (hle : F i ≤ L i) : Ans n F L i (F i) := by
  refine ⟨Int.le_refl _, hle, .inr ⟨rfl, fun y h1 h2 => ?_⟩⟩
  by_cases hy : y < nx
  · exact s.cov y h1 hy
  · exact ⟨j, s.ij, hj, by omega, by omega⟩

theorem self_next {n : Nat} {F L Pa : Nat → Int} (h : WF n F L Pa) {i j j' : Nat} {nx : Int} (s : Self n F L i j nx) (hj : j < n) (hp : Pa j = (i : Int)) (hge : F j ≤ nx) (hl : L j ≠ L i)
    (hjj : j < j') (hjn : j' ≤ n) (hmid : ∀ d, j < d → d < j' → F d ≤ L j) (hend : j' < n → L j < F j') : Self n F L i j' (L j + 1) := by
  have hc := child_in h s.ij hj hp
  have hle := h.le j hj
  have hin : ∀ d, j < d → d < j' → L d ≤ L j := fun d h1 h2 => by
    rcases h.nest j d h1 (by omega) with q | q
    · have := hmid d h1 h2; omega
    · exact q
  have hfi := h.mono i j (by have := s.ij; omega) hj
  refine ⟨by have := s.ij; omega, hjn, by omega, by omega, fun y h1 h2 => ?_, fun d h1 h2 => ?_, fun hn d h1 h2 => ?_⟩
  · by_cases hy : y < nx
    · exact s.cov y h1 hy
    · exact ⟨j, s.ij, hj, by omega, by omega⟩
  · by_cases hd : d < j
    · have := s.ends hj d h1 hd; omega
    · by_cases he : d = j
      · subst he; omega
      · have := hin d (by omega) h2; omega
  · have hq := hend hn
    by_cases hd : d < j
    · have := s.ends hj d h1 hd; omega
    · by_cases he : d = j
      · subst he; exact hq
      · have := hin d (by omega) h2; omega

/-! ### zzFirstUncovered -/

/-- The candidates below c that have been tried: the least uncovered, if one was found. 'c' counts from 0 for Go's -1. -/
structure Best (n : Nat) (F L : Nat → Int) (i c : Nat) (best : Int) (found : Bool) : Prop where
  no : found = false → best = F i ∧ (0 < c → Cov n F L i (F i)) ∧ ∀ d, i < d → d + 1 < c → d < n → F d ≤ L i → L d < L i → Cov n F L i (L d + 1)
  yes : found = true → F i ≤ best ∧ best ≤ L i ∧ ¬ Cov n F L i best ∧ (0 < c → ¬ Cov n F L i (F i) → best ≤ F i) ∧ ∀ d, i < d → d + 1 < c → d < n → F d ≤ L i → L d < L i → ¬ Cov n F L i (L d + 1) → best ≤ L d + 1

theorem best_start (n : Nat) (F L : Nat → Int) (i : Nat) : Best n F L i 0 (F i) false :=
  ⟨fun _ => ⟨rfl, fun h => absurd h (Nat.lt_irrefl _), fun d _ h => by omega⟩, fun h => by cases h⟩

/-- A candidate that is passed over: it is none, or covered, or no better. -/
theorem best_keep {n : Nat} {F L : Nat → Int} {i c : Nat} {best : Int} {found : Bool} (h : Best n F L i c best found)
    (h0 : c = 0 → Cov n F L i (F i) ∨ (found = true ∧ best ≤ F i))
    (h1 : ∀ d, d + 1 = c → i < d → d < n → F d ≤ L i → L d < L i → Cov n F L i (L d + 1) ∨ (found = true ∧ best ≤ L d + 1)) : Best n F L i (c + 1) best found := by
  refine ⟨fun hf => ?_, fun hf => ?_⟩
  · obtain ⟨a, b, d'⟩ := h.no hf
    refine ⟨a, fun _ => ?_, fun d d1 d2 d3 d4 d5 => ?_⟩
    · by_cases e : c = 0
      · rcases h0 e with q | ⟨q, _⟩
        · exact q
        · rw [hf] at q; cases q
      · exact b (by omega)
    · by_cases e : d + 1 = c
      · rcases h1 d e d1 d3 d4 d5 with q | ⟨q, _⟩
        · exact q
        · rw [hf] at q; cases q
      · exact d' d d1 (by omega) d3 d4 d5
  · obtain ⟨a1, a2, a3, a4, a5⟩ := h.yes hf
    refine ⟨a1, a2, a3, fun _ hn => ?_, fun d d1 d2 d3 d4 d5 hn => ?_⟩
    · by_cases e : c = 0
      · rcases h0 e with q | ⟨_, q⟩
        · exact absurd q hn
        · exact q
      · exact a4 (by omega) hn
    · by_cases e : d + 1 = c
      · rcases h1 d e d1 d3 d4 d5 with q | ⟨_, q⟩
        · exact absurd q hn
        · exact q
      · exact a5 d d1 (by omega) d3 d4 d5 hn

/-- A candidate that is taken. -/
theorem best_take {n : Nat} {F L : Nat → Int} {i c : Nat} {best x : Int} {found : Bool} (h : Best n F L i c best found) (hlo : F i ≤ x) (hhi : x ≤ L i) (hu : ¬ Cov n F L i x) (hb : found = false ∨ x < best)
    (h0 : c = 0 → x = F i) (h1 : ∀ d, d + 1 = c → x = L d + 1) : Best n F L i (c + 1) x true := by
  refine ⟨fun hf => (by cases hf), fun _ => ⟨hlo, hhi, hu, fun _ hn => ?_, fun d d1 d2 d3 d4 d5 hn => ?_⟩⟩
  · by_cases e : c = 0
    · have := h0 e; omega
    · rcases hb with hb | hb
      · exact absurd ((h.no hb).2.1 (by omega)) hn
      · cases hf : found with
        | true => have := (h.yes hf).2.2.2.1 (by omega) hn; omega
        | false => exact absurd ((h.no hf).2.1 (by omega)) hn
  · by_cases e : d + 1 = c
    · have := h1 d e; omega
    · cases hf : found with
      | true =>
        have := (h.yes hf).2.2.2.2 d d1 (by omega) d3 d4 d5 hn
        rcases hb with hb | hb
        · rw [hf] at hb; cases hb
        · omega
      | false => exact absurd ((h.no hf).2.2 d d1 (by omega) d3 d4 d5) hn

/-- If some number of [F i, z) is not covered, the least such is a candidate. -/
theorem least_uncovered {n : Nat} {F L : Nat → Int} {i : Nat} {z : Int} (hz : z ≤ L i + 1) (hcand : ¬ Cov n F L i (F i) → z ≤ F i)
    (hd : ∀ d, i < d → d < n → F d ≤ L i → L d < L i → ¬ Cov n F L i (L d + 1) → z ≤ L d + 1) : ∀ (k : Nat) (y : Int), y = F i + k → y < z → Cov n F L i y := by
  intro k
  induction k with
  | zero =>
    intro y hy hlt
    apply Classical.byContradiction
    intro hn
    have : y = F i := by omega
    rw [this] at hn hlt
    have := hcand hn
    omega
  | succ k ih =>
    intro y hy hlt
    apply Classical.byContradiction
    intro hn
    obtain ⟨d, d1, d2, d3, d4⟩ := ih (y - 1) (by omega) (by omega)
    have hl : L d = y - 1 := by
      apply Classical.byContradiction
      intro hne
      exact hn ⟨d, d1, d2, by omega, by omega⟩
    have hn2 : ¬ Cov n F L i (L d + 1) := by rw [hl, show y - 1 + 1 = y by omega]; exact hn
    have := hd d d1 d2 (by omega) (by omega) hn2
    omega

theorem best_ans {n : Nat} {F L : Nat → Int} {i : Nat} {best : Int} {found : Bool} (h : Best n F L i (n + 1) best found) (hle : F i ≤ L i) : Ans n F L i best := by
  cases hf : found with
  | true =>
    obtain ⟨a1, a2, a3, a4, a5⟩ := h.yes hf
    refine ⟨a1, a2, .inl ⟨a3, fun y h1 h2 => ?_⟩⟩
    exact least_uncovered (z := best) (by omega) (a4 (by omega)) (fun d d1 d2 d4 d5 hn => a5 d d1 (by omega) d2 d4 d5 hn) (y - F i).toNat y (by omega) h2
  | false =>
    obtain ⟨a1, a2, a3⟩ := h.no hf
    rw [a1]
    refine ⟨Int.le_refl _, hle, .inr ⟨rfl, fun y h1 h2 => ?_⟩⟩
    exact least_uncovered (z := L i + 1) (by omega) (fun hn => absurd (a2 (by omega)) hn) (fun d d1 d2 d4 d5 hn => absurd (a3 d d1 (by omega) d2 d4 d5) hn) (y - F i).toNat y (by omega) (by omega)

/-! ### zzAllCovered -/

structure Sweep (F L : Nat → Int) (i d : Nat) (nx : Int) : Prop where
  lo : F i ≤ nx
  past : ∀ e, i < e → e < d → F e ≤ L i → L e < nx

theorem sweep_start (F L : Nat → Int) (i : Nat) : Sweep F L i (i + 1) (F i) := ⟨Int.le_refl _, fun e h1 h2 => by omega⟩

theorem sweep_skip {F L : Nat → Int} {i d : Nat} {nx : Int} (s : Sweep F L i d nx) (h : ¬ F d ≤ L i) : Sweep F L i (d + 1) nx :=
  ⟨s.lo, fun e h1 h2 h3 => by
    by_cases q : e = d
    · subst q; exact absurd h3 h
    · exact s.past e h1 (by omega) h3⟩

theorem sweep_keep {F L : Nat → Int} {i d : Nat} {nx : Int} (s : Sweep F L i d nx) (h : L d < nx) : Sweep F L i (d + 1) nx :=
  ⟨s.lo, fun e h1 h2 h3 => by
    by_cases q : e = d
    · subst q; exact h
    · exact s.past e h1 (by omega) h3⟩

theorem sweep_take {F L : Nat → Int} {i d : Nat} {nx : Int} (s : Sweep F L i d nx) (h : nx ≤ L d) : Sweep F L i (d + 1) (L d + 1) :=
  ⟨by have := s.lo; omega, fun e h1 h2 h3 => by
    by_cases q : e = d
    · subst q; omega
    · have := s.past e h1 (by omega) h3; omega⟩

theorem sweep_nogap {n : Nat} {F L Pa : Nat → Int} (h : WF n F L Pa) {i d : Nat} {nx : Int} (s : Sweep F L i d nx) (hd : d < n) (hin : F d ≤ L i) (hall : ∀ y, F i ≤ y → y ≤ L i → Cov n F L i y) : F d ≤ nx := by
  apply Classical.byContradiction
  intro hlt
  obtain ⟨e, e1, e2, e3, e4⟩ := hall nx s.lo (by omega)
  by_cases q : e < d
  · have := s.past e e1 q (by omega); omega
  · have := h.mono d e (by omega) e2; omega

theorem sweep_end {n : Nat} {F L : Nat → Int} {i : Nat} {nx : Int} (s : Sweep F L i n nx) (hall : ∀ y, F i ≤ y → y ≤ L i → Cov n F L i y) : L i < nx := by
  apply Classical.byContradiction
  intro hlt
  obtain ⟨e, e1, e2, e3, e4⟩ := hall nx s.lo (by omega)
  have := s.past e e1 e2 (by omega)
  omega

/-! ### the lookup -/

/-- The last span below k that holds r. -/
structure Look (F L : Nat → Int) (r : Int) (k : Nat) (look : Int) : Prop where
  at_ : look = -1 ∨ ∃ m : Nat, look = (m : Int) ∧ m < k ∧ F m ≤ r ∧ r ≤ L m
  past : ∀ m : Nat, m < k → look < (m : Int) → ¬ (F m ≤ r ∧ r ≤ L m)

theorem look_start (F L : Nat → Int) (r : Int) : Look F L r 0 (-1) := ⟨.inl rfl, fun m h => absurd h (Nat.not_lt_zero _)⟩

theorem look_hit {F L : Nat → Int} {r : Int} {k : Nat} {look : Int} (h : Look F L r k look) (h1 : F k ≤ r) (h2 : r ≤ L k) : Look F L r (k + 1) (k : Int) :=
  ⟨.inr ⟨k, rfl, by omega, h1, h2⟩, fun m hm hl => by omega⟩

theorem look_miss {F L : Nat → Int} {r : Int} {k : Nat} {look : Int} (h : Look F L r k look) (hn : ¬ (F k ≤ r ∧ r ≤ L k)) : Look F L r (k + 1) look :=
  ⟨by rcases h.at_ with q | ⟨m, a, b, c⟩
      · exact .inl q
      · exact .inr ⟨m, a, by omega, c⟩, fun m hm hl => by
    by_cases e : m = k
    · subst e; exact hn
    · exact h.past m (by omega) hl⟩

theorem look_end {n : Nat} {F L : Nat → Int} {i : Nat} {r look : Int} (hi : i < n) (hA : Ans n F L i r) (h : Look F L r n look) (hne : look ≠ (i : Int)) : r = F i ∧ ∀ y, F i ≤ y → y ≤ L i → Cov n F L i y := by
  obtain ⟨a1, a2, a3⟩ := hA
  have hge : (i : Int) ≤ look := by
    apply Classical.byContradiction
    intro hlt
    exact h.past i hi (by omega) ⟨a1, a2⟩
  rcases h.at_ with q | ⟨m, q1, q2, q3, q4⟩
  · omega
  · rcases a3 with ⟨u, _⟩ | a3
    · exact absurd ⟨m, by omega, q2, q3, q4⟩ u
    · exact a3

end Go.Proofs.Qxb6605806a
