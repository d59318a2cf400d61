/-
  THE LAW's OWN FUNCTION.
-/
import Derived.Test.Qxb6605841aShut
import Derived.Deep.RegionWith
import Derived.Deep.DeepFit
namespace Go.Proofs.Qxb6605841a
open Go.RowKit
set_option linter.unusedVariables false
set_option linter.unusedSimpArgs false

theorem EndsAt.kept {w w' : World} {f : Nat → ByteArray} {base g K : Nat} (h : EndsAt w f base g K K) (hs : w.heap.size ≤ w'.heap.size) (hk : ∀ j, base ≤ j → j < w.heap.size → w'.heap[j]? = w.heap[j]?) : EndsAt w' f base g K K := by
  refine ⟨Nat.lt_of_lt_of_le h.1 hs, fun m hm => ?_⟩
  obtain ⟨⟨v, c0⟩, f0, c1⟩ := h.2 m hm
  obtain ⟨x, ⟨x0, x1, x2⟩, x3, x4, x5⟩ := c1 hm
  have eg := hk g x2 h.1
  have ex := hk x x1 x4
  have cg : w'.cell? ⟨g, m, none⟩ = w.cell? ⟨g, m, none⟩ := by simp [World.cell?, eg]
  have fg : w'.frozen? ⟨g, m, none⟩ = w.frozen? ⟨g, m, none⟩ := by simp [World.frozen?, eg]
  exact ⟨⟨v, cg.trans c0⟩, fg.trans f0, fun _ => ⟨x, ⟨x0, x1, x2⟩, cg.trans x3, Nat.lt_of_lt_of_le x4 hs, fun j hj => (show w'.cell? ⟨x, j, none⟩ = w.cell? ⟨x, j, none⟩ by simp [World.cell?, ex]).trans (x5 j hj)⟩⟩

set_option maxRecDepth 100000 in
set_option maxHeartbeats 2000000 in
theorem early6 (a : Option Addr) (n c : Nat) (f : Nat → ByteArray) (w : World) (hn : n ≤ 9223372036854775807) (hs : ∀ j, j < n → (f j).size ≤ 9223372036854775807) (h : RowS w a n f) (hbad : ¬ (n ≤ 65536 ∧ 0 < n ∧ n % 4096 = 0)) :
    Calls Try.prog 6 #[.slice a n c] w fun e w' => e = .returned (.bool true) ∧ w = w' := by
  have hcon := bytes18 a n c f w hn hs h
  have H := hid h
  clear h hs
  by_cases q0 : n ≤ 65536
  · by_cases q1 : n = 0
    · subst q1
      go_enter Try.func6, Try.ntmps6
      go_wp2_with (go_at_call 18; refine hcon.mono ?_; rintro e w' ⟨⟨r, rfl, hr⟩, rfl⟩; have HR := hid hr; clear hr)
      · go_ret
        exact ⟨rfl, rfl⟩
      · have hb := HR.out (by have hr : (!r) = false := ‹_›
                              simpa using hr)
        refine (total11 a 0 c f w (by omega) (by omega) H.out).mono ?_
        rintro e w' ⟨⟨tt, rfl⟩, rfl⟩
        go_wp2
        all_goals (go_ret; exact ⟨rfl, rfl⟩)
    · have q2 : ((n : Int) % 4096 == 0) = false := by simp; omega
      have q2' : ((n : Int) == 0) = false := by simp; omega
      have q2'' : ((n : Int) % 4096 != 0) = true := by simp; omega
      clear hbad
      go_enter Try.func6, Try.ntmps6
      go_wp2_with (go_at_call 18; refine hcon.mono ?_; rintro e w' ⟨⟨r, rfl, hr⟩, rfl⟩; have HR := hid hr; clear hr)
      · go_ret
        exact ⟨rfl, rfl⟩
      · have hb := HR.out (by have hr : (!r) = false := ‹_›
                              simpa using hr)
        refine (total11 a n c f w q0 (by omega) H.out).mono ?_
        rintro e w' ⟨⟨tt, rfl⟩, rfl⟩
        go_wp2
        all_goals (go_ret; exact ⟨rfl, rfl⟩)
  · clear hbad
    go_enter Try.func6, Try.ntmps6
    go_wp2_with (go_at_call 18; refine hcon.mono ?_; rintro e w' ⟨⟨r, rfl, hr⟩, rfl⟩; have HR := hid hr; clear hr)
    all_goals (go_ret; exact ⟨rfl, rfl⟩)

theorem wrap_small (x : Int) (h0 : 0 ≤ x) (h1 : x ≤ 1000000) : IntKind.i64.wrap x = x := by rw [IntKind.wrap_i64]; omega

theorem lt_of_cell {w : World} {a : Addr} {v : Value} (h : w.cell? a = some v) : a.block < w.heap.size := by
  unfold World.cell? at h
  split at h
  · rename_i hc
    exact (Array.getElem?_eq_some_iff.1 hc).1
  · cases h

theorem row_cell {w : World} {b n : Nat} {f : Nat → ByteArray} (h : RowS w (some ⟨b, 0, none⟩) n f) {i : Nat} (hi : i < n) : w.cell? ⟨b, i, none⟩ = some (.string (f i)) := by
  obtain ⟨b', off, e, _, hc⟩ := h.at (by omega)
  simp only [Option.some.injEq, Addr.mk.injEq, and_true] at e
  obtain ⟨rfl, rfl⟩ := e
  have := hc i hi
  rwa [Nat.zero_add] at this

theorem owns_slice {w : World} {base : Nat} {e : TypeId} {size : Nat} {v : Value} {n : Nat} {xs : List Value} (h : w.ownsRow base e size v n xs) (hn : v ≠ .slice none 0 0) : ∃ g cap, v = .slice (some ⟨g, 0, none⟩) n cap := by
  rcases h.2 with ⟨e0, _⟩ | ⟨g, capf, cur, e0, _⟩
  · exact absurd e0 hn
  · exact ⟨g, capf, e0⟩

set_option maxRecDepth 100000 in
set_option maxHeartbeats 4000000 in
theorem main6 (x : Addr) (n c K : Nat) (f : Nat → ByteArray) (w : World) (hs : ∀ j, j < n → (f j).size ≤ 9223372036854775807) (h : RowS w (some x) n f) (hK : n = (K + 1) * 4096) (hK16 : K ≤ 15) :
    Calls Try.prog 6 #[.slice (some x) n c] w fun e w' => e = .returned (.bool true) ∧ Below w.heap.size w w' := by
  have hn : n ≤ 65536 := by omega
  have hcon := bytes18 (some x) n c f w (by omega) hs h
  have H := hid h
  have HK := hid hK
  have q1 : ((n : Int) % 4096) = 0 := by omega
  have q2 : ((n : Int) == 0) = false := by simp; omega
  have q3 : (n : Int) / 4096 = (K : Int) + 1 := by omega
  have q4 : (0 : Int) < (n : Int) := by omega
  have q5 : (n : Int) ≤ 65536 := by omega
  clear h hs hK
  go_enter Try.func6, Try.ntmps6
  go_wp2_with (go_at_call 18; refine hcon.mono ?_; rintro e w' ⟨⟨r, rfl, hr⟩, rfl⟩; have HR := hid hr; clear hr)
  · go_ret
    exact ⟨rfl, Below.refl _ _⟩
  · have hb := HR.out (by have hr : (!r) = false := ‹_›
                          simpa using hr)
    have HT : Hid (tot f 0 n ≤ 1048576) := hid (by omega)
    clear hb HR hcon
    refine (total11 (some x) n c f w hn HT.out H.out).mono ?_
    rintro e w' ⟨⟨tt, rfl⟩, rfl⟩
    have hcl := clone12 x n c f w hn H.out
    go_wp2_with (go_at_call 12; refine hcl.mono ?_; rintro e w1 ⟨⟨b0, rfl, hr1⟩, hb1⟩; have HR1 := hid hr1; have HB1 := hid hb1; clear hr1 hb1)
    · go_ret
      exact ⟨rfl, Below.refl _ _⟩
    clear hcl
    have hKn := HK.out
    obtain ⟨l, hl⟩ : ∃ l, l = cat f (K * 4096) 4096 := ⟨_, rfl⟩
    have hll : l.length ≤ 1048576 := by rw [hl, cat_length]; exact Nat.le_trans (tot_in f (by omega)) HT.out
    have hc15 : Calls Try.prog 15 #[.slice (some ⟨b0, 0, none⟩) n n, .int .i64 ((n : Int) - 4096), .int .i64 n] w1 fun e w' => e = .returned (.string ⟨l.toArray⟩) ∧ Below w1.heap.size w1 w' := by
      have := concat15 (some ⟨b0, 0, none⟩) n n (K * 4096) 4096 f w1 hn HT.out (by omega) (by omega) HR1.out
      have e1 : ((K * 4096 : Nat) : Int) = (n : Int) - 4096 := by omega
      have e2 : ((K * 4096 + 4096 : Nat) : Int) = (n : Int) := by omega
      rw [e1, e2, ← hl] at this
      exact this
    have HLL := hid hl
    clear hl hKn
    refine hc15.mono ?_
    rintro e w2 ⟨rfl, hb2⟩
    have HR2 := hid (HR1.out.later hb2)
    have HB2 := hid hb2
    clear hc15 hb2
    have hc14 := full14 (some ⟨b0, 0, none⟩) n n K f w2 hn HT.out (by have := HK.out; omega) HR2.out
    go_wp2_with (go_at_call 14; refine hc14.mono ?_; rintro e w3 ⟨⟨v, rfl, ho3, hn3⟩, hb3⟩; have HO3 := hid ho3; have HB3 := hid hb3; obtain ⟨g, capf, rfl⟩ := owns_slice ho3 hn3; clear ho3 hb3 hn3)
    have HR3 := hid (HR2.out.later HB3.out)
    refine (ends16 (some ⟨b0, 0, none⟩) n n (K + 1) f w3 hn HT.out HK.out (by omega) HR3.out).mono ?_
    rintro e w4 ⟨⟨ge, rfl, he4⟩, hb4⟩
    have HE4 := hid he4
    have HB4 := hid hb4
    clear hc14 he4 hb4
    have hc13 := new13 g K capf ge (K + 1) n l w4 hll
    go_wp2_with (go_at_call 13; refine hc13.mono ?_; rintro e w5 ⟨rfl, ⟨v5, hl5, ho5, hz5⟩, hb5⟩; have HL5 := hid hl5; have HO5 := hid ho5; have HZ5 := hid hz5; have HB5 := hid hb5; clear hl5 ho5 hz5 hb5)
    clear hc13
    have hs2 := HB3.out.size
    have hs3 := HB4.out.size
    have hs4 := HB5.out.size
    have hc19 := shut19 w4.heap.size w2.heap.size g K capf _ v5 _ _ (blockVals f K) l w5 HL5.out HO5.out HZ5.out (owns_below (owns_below HO3.out HB4.out) HB5.out) (by omega) hll hK16
    refine hc19.mono ?_
    rintro e w6 ⟨rfl, ⟨g6, capf6, bb, cap6, hl6, hm6, _, hc6, hx6⟩, hb6, hk6⟩
    have hg3 : g < w3.heap.size := (HO3.out.lt g rfl).2
    have HR6 : Hid (RowS w6 (some ⟨b0, 0, none⟩) n f) := hid (HR2.out.later (((HB3.out.trans (HB4.out.mono hs2)).trans (HB5.out.mono (by omega))).trans hb6))
    have HE6 : Hid (EndsAt w6 f w3.heap.size ge (K + 1) (K + 1)) := hid (HE4.out.kept (Nat.le_trans hs4 hb6.size) (fun j h1 h2 => (hk6 j h2 (by omega)).trans (HB5.out.block j h2)))
    have HX6 : Hid (∀ j, j < K + 1 → w6.cell? ⟨g6, j, none⟩ = some (.string ⟨(cat f (j * 4096) 4096).toArray⟩)) := hid (fun j hj => hx6 j _ (by rw [HLL.out, ← blockVals_succ]; simp [blockVals, hj]))
    have HB6 : Hid (Below w.heap.size w w6) := hid ((((((HB1.out.trans (HB2.out.mono HB1.out.size)).trans (HB3.out.mono (Nat.le_trans HB1.out.size HB2.out.size))).trans (HB4.out.mono (by have := HB1.out.size; have := HB2.out.size; omega))).trans (HB5.out.mono (by have := HB1.out.size; have := HB2.out.size; omega))).trans (hb6.mono (Nat.le_trans HB1.out.size HB2.out.size))))
    obtain ⟨B, hB⟩ : ∃ B, w4.heap.size = B := ⟨_, rfl⟩
    rw [hB] at hl6
    rw [hB]
    have HL6 := hid hl6
    clear hc19 hl6 hx6 hb6 hk6 hs2 hs3 hs4
    have hc20 := full20 B (K + 1) capf6 _ _ _ _ _ w6 HL6.out
    go_wp2_with (go_at_call 20; refine hc20.mono ?_; rintro e w6' ⟨rfl, rfl⟩)
    clear hc20
    go_loopw [8] (fun s8 wr => ∃ m : Nat, m ≤ K + 1 ∧ s8 = .int .i64 (m : Int) ∧ Hid (Below w6.heap.size w6 wr)) (fun s8 _ => K + 1 - (intOf s8).toNat)
    case atStart => exact ⟨0, Nat.zero_le _, rfl, hid (Below.refl _ _)⟩
    case round =>
      obtain ⟨m, hmK, rfl, HBr⟩ := hrel
      by_cases hm : m < K + 1
      · obtain ⟨S, hS⟩ : ∃ S : ByteArray, S = ⟨(cat f (m * 4096) 4096).toArray⟩ := ⟨_, rfl⟩
        have hg6 : g6 < w6.heap.size := lt_of_cell (HX6.out 0 (by omega))
        have c0 : wr.cell? ⟨g6, m, none⟩ = some (.string S) := by rw [hS]; exact (HBr.out.cell (p := ⟨g6, m, none⟩) hg6).trans (HX6.out m hm)
        have hc15 : Calls Try.prog 15 #[.slice (some ⟨b0, 0, none⟩) n n, .int .i64 (IntKind.i64.wrap ((m : Int) * 4096)), .int .i64 (IntKind.i64.wrap (IntKind.i64.wrap ((m : Int) + 1) * 4096))] wr.drew fun e w' => e = .returned (.string S) ∧ Below wr.heap.size wr.drew w' := by
          have := concat15 (some ⟨b0, 0, none⟩) n n (m * 4096) 4096 f wr.drew hn HT.out (by have := HK.out; omega) (by omega) (HR6.out.later HBr.out.drew)
          have e1 : ((m * 4096 : Nat) : Int) = IntKind.i64.wrap ((m : Int) * 4096) := by rw [wrap_small _ (by omega) (by omega)]; omega
          have e2 : ((m * 4096 + 4096 : Nat) : Int) = IntKind.i64.wrap (IntKind.i64.wrap ((m : Int) + 1) * 4096) := by rw [wrap_small ((m : Int) + 1) (by omega) (by omega), wrap_small _ (by omega) (by omega)]; omega
          rw [e1, e2, ← hS] at this
          exact this
        clear hS
        have m0 : (0 : Int) ≤ (m : Int) := by omega
        have m1 : (m : Int) < (K : Int) + 1 := by omega
        have hgr : g6 < wr.heap.size := Nat.lt_of_lt_of_le hg6 HBr.out.size
        have c0' : wr.drew.cell? ⟨g6, m, none⟩ = some (.string S) := c0
        go_wp2
        go_region_with (go_at_call 15; go_must (go_fit hc15); rintro e w7 ⟨rfl, hb7⟩; have HB7 := hid hb7; have c7 : w7.cell? ⟨g6, m, none⟩ = some (.string S) := (hb7.cell (p := ⟨g6, m, none⟩) hgr).trans c0'; clear hb7)
        all_goals go_wp2
        all_goals (
          refine ⟨⟨m + 1, by omega, by go_num, hid (HBr.out.drew.trans (HB7.out.mono HBr.out.size))⟩, ?_⟩
          simp [intOf] <;> omega)
      · have : m = K + 1 := by omega
        subst this
        have hc21 := len21 B 0 cap6 bb _ _ _ _ wr (HL6.out.later (HBr.out.block B HL6.out.lt))
        have hc22 := cap22 B 0 cap6 bb _ _ _ _ wr (HL6.out.later (HBr.out.block B HL6.out.lt))
        have hcf : decide (cap6 < l.length) = false := by simp; omega
        have hcf2 : decide ((cap6 : Int) < (l.length : Int)) = false := by simp; omega
        go_wp2_with (first
          | (go_at_call 21; refine hc21.mono ?_; rintro e w7 ⟨rfl, rfl⟩)
          | (go_at_call 22; refine hc22.mono ?_; rintro e w7 ⟨rfl, rfl⟩))
        clear hc21 hc22
        obtain ⟨W8, hW8⟩ : ∃ W8, W8 = wr := ⟨_, rfl⟩
        subst hW8
        go_loopw [9] (fun s9 wx => ∃ i : Nat, i ≤ n ∧ s9 = .int .i64 (i : Int) ∧ Hid (Below w6.heap.size w6 wx)) (fun s9 _ => n - (intOf s9).toNat)
        case atStart => exact ⟨0, Nat.zero_le _, rfl, HBr⟩
        case round =>
          obtain ⟨i, hin, rfl, HBx⟩ := hrel
          by_cases hi : i < n
          · have hg6 : g6 < w6.heap.size := lt_of_cell (HX6.out 0 (by omega))
            have hgx : g6 < wr.heap.size := Nat.lt_of_lt_of_le hg6 HBx.out.size
            have c0 : wr.drew.cell? ⟨b0, i, none⟩ = some (.string (f i)) := row_cell (HR6.out.later HBx.out.drew) hi
            have hi16 : i / 4096 < K + 1 := by have := HK.out; omega
            have hgc : wr.drew.cell? ⟨g6, i / 4096, none⟩ = some (.string ⟨(cat f (i / 4096 * 4096) 4096).toArray⟩) := (HBx.out.drew.cell (p := ⟨g6, i / 4096, none⟩) hg6).trans (HX6.out _ hi16)
            have hc17 := wrap17 (.pointer (some ⟨B, 0, none⟩)) _ _ wr.drew ⟨B, 0, none⟩ rfl (at28 B w3.heap.size ge g6 (K + 1) capf6 (i / 4096) (i % 4096) cap6 bb f _ _ wr.drew (HL6.out.later (HBx.out.drew.block B HL6.out.lt)) hc6 (HE6.out.later HBx.out.drew) hgc (by omega) hi16 (Nat.mod_lt _ (by omega)) (Nat.le_trans (tot_in f (by have := HK.out; omega)) HT.out))
            have ei : i / 4096 * 4096 + i % 4096 = i := by omega
            rw [ei] at hc17
            clear hgc ei
            have i0 : (0 : Int) ≤ (i : Int) := by omega
            have i1 : (i : Int) < (n : Int) := by omega
            go_wp2
            go_region_with (go_at_call 17; refine hc17.mono ?_; rintro e w7 ⟨rfl, q7, hw7⟩; have c7 : w7.cell? ⟨b0, i, none⟩ = some (.string (f i)) := (by rw [hw7]; exact c0); have HB7 : Hid (Below w6.heap.size w6 w7) := (by rw [hw7]; exact below_drewN HBx.out.drew _); clear hw7)
            all_goals go_wp2
            all_goals (
              go_roundw
              case rel => exact ⟨i + 1, by omega, by go_num, HB7⟩
              case measure => (simp [intOf] <;> omega))
          · have : i = n := by omega
            subst this
            go_wp2
            go_ret
            exact ⟨rfl, HB6.out.trans (HBx.out.mono HB6.out.size)⟩

end Go.Proofs.Qxb6605841a
