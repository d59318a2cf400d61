/-
  FnElementErrorInjective: the walk of the law, over whatever F whose texts tell the two elements apart.
-/
import Derived.Test.Qxb6605806aFmtWalk
namespace Go.Proofs.Qxb6605806aFmt
open Go.RowKit Go.Extern.Stop Go.Stop Go.Extern
set_option linter.unusedVariables false
set_option linter.unusedSimpArgs false

set_option maxHeartbeats 1000000 in
theorem main3 (F : Interp) (i j : Int) (a b : ByteArray) (w : World) (hF : F.answers w.tape) (ha : a.size ≤ 9223372036854775807) (hb : b.size ≤ 9223372036854775807)
    (hinj : ((txt F i a).toList == (txt F j b).toList) = (i == j && a.toList == b.toList)) :
    Calls Tryf.prog 3 #[.int .i64 i, .int .i64 j, .string a, .string b] w fun e w' => e = .returned (.bool true) ∧ Below w.heap.size w w' := by
  have HI := hid hinj
  clear hinj
  cases hk : okLen a.size b.size with
  | false =>
    go_enter Tryf.func3, Tryf.ntmps3
    go_wp2_with (go_at_call 4; refine (bytes4 _ _ _ _ _ ha hb).mono ?_; rintro e w1 ⟨rfl, rfl⟩; rw [hk])
    go_ret
    exact ⟨rfl, Below.refl _ _⟩
  | true =>
    by_cases h1 : (524288 : Int) < (a.size : Int)
    · go_enter Tryf.func3, Tryf.ntmps3
      go_wp2_with (go_at_call 4; refine (bytes4 _ _ _ _ _ ha hb).mono ?_; rintro e w1 ⟨rfl, rfl⟩; rw [hk])
      go_ret
      exact ⟨rfl, Below.refl _ _⟩
    by_cases h2 : (524288 : Int) < (b.size : Int)
    · go_enter Tryf.func3, Tryf.ntmps3
      go_wp2_with (go_at_call 4; refine (bytes4 _ _ _ _ _ ha hb).mono ?_; rintro e w1 ⟨rfl, rfl⟩; rw [hk])
      go_ret
      exact ⟨rfl, Below.refl _ _⟩
    cases hij : (i == j) with
    | true =>
      rw [hij] at HI
      go_enter Tryf.func3, Tryf.ntmps3
      go_wp2_with (go_at_call 4; refine (bytes4 _ _ _ _ _ ha hb).mono ?_; rintro e w1 ⟨rfl, rfl⟩; rw [hk])
      refine (text5 F i a _ hF).mono ?_
      rintro e w1 ⟨rfl, hb1⟩
      go_wp2_with fail
      refine (text5 F j b _ (by rw [hb1.tape]; exact hF)).mono ?_
      rintro e w2 ⟨rfl, hb2⟩
      go_wp2_with fail
      go_ret
      refine ⟨?_, hb1.trans (hb2.mono hb1.size)⟩
      have h := HI.out
      simp at h
      simp [h]
    | false =>
      rw [hij] at HI
      go_enter Tryf.func3, Tryf.ntmps3
      go_wp2_with (go_at_call 4; refine (bytes4 _ _ _ _ _ ha hb).mono ?_; rintro e w1 ⟨rfl, rfl⟩; rw [hk])
      refine (text5 F i a _ hF).mono ?_
      rintro e w1 ⟨rfl, hb1⟩
      go_wp2_with fail
      refine (text5 F j b _ (by rw [hb1.tape]; exact hF)).mono ?_
      rintro e w2 ⟨rfl, hb2⟩
      go_wp2_with fail
      go_ret
      refine ⟨?_, hb1.trans (hb2.mono hb1.size)⟩
      have h := HI.out
      simp at h
      simp [h]

end Go.Proofs.Qxb6605806aFmt
