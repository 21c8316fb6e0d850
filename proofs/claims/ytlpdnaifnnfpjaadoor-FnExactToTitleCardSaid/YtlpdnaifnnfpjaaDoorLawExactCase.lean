/-
  WALKS of the laws FnExactToUpper, FnExactToLower, FnExactToTitle: the case mappings of the first 256 numbers against the reference.
-/
import Derived.Test.YtlpdnaifnnfpjaaDoorRows
import Derived.Test.YtlpdnaifnnfpjaaDoorCase
import Derived.Test.YtlpdnaifnnfpjaaDoorLatinCase
namespace Go.Proofs.YtlpdnaifnnfpjaaDoor
open Go.RowKit Go.Lib
set_option linter.unusedVariables false

theorem fnExactToUpper_walk (r : Int) (w : World) (h0 : -2147483648 ≤ r) (h1 : r ≤ 2147483647) (hL : laidMet Tryd.prog Rows.fnExactToUpperRow.laid w) :
    Calls Tryd.prog 7 #[.int .i32 r] w fun e w' => e = .returned (.bool true) ∧ Below w.heap.size w w' := by
  have HV := Lib.hid (caseVar_of_laid hL (.head _))
  clear hL
  by_cases h : 0 ≤ r ∧ r ≤ 255
  · have cl := latin_any r w
    rw [show latB r = true from decide_eq_true h] at cl
    have CL := Lib.hid cl
    have HE := Lib.hid (up_eq r h.1 h.2)
    obtain ⟨h2, h3⟩ := h
    clear cl
    go_enter Tryd.func7, Tryd.ntmps7
    go_wp2_with fail
    refine CL.out.mono ?_
    rintro e w' ⟨rfl, rfl⟩
    go_wp2_with fail
    refine (implToUpper_any r w HV.out).mono ?_
    rintro e w' ⟨rfl, q, rfl⟩
    go_wp2_with fail
    refine (toUpperS_any r _ h2 h3).mono ?_
    rintro e w' ⟨rfl, rfl⟩
    rw [HE.out]
    go_wp2
    go_ret
    exact ⟨ret_bool (by simp), bel_drewN (Below.refl _ _) q⟩
  · have cl := latin_any r w
    rw [show latB r = false from decide_eq_false h] at cl
    have CL := Lib.hid cl
    clear cl h
    go_enter Tryd.func7, Tryd.ntmps7
    go_wp2_with fail
    refine CL.out.mono ?_
    rintro e w' ⟨rfl, rfl⟩
    go_wp2
    go_ret
    exact ⟨rfl, Below.refl _ _⟩
theorem fnExactToLower_walk (r : Int) (w : World) (h0 : -2147483648 ≤ r) (h1 : r ≤ 2147483647) (hL : laidMet Tryd.prog Rows.fnExactToLowerRow.laid w) :
    Calls Tryd.prog 5 #[.int .i32 r] w fun e w' => e = .returned (.bool true) ∧ Below w.heap.size w w' := by
  have HV := Lib.hid (caseVar_of_laid hL (.head _))
  clear hL
  by_cases h : 0 ≤ r ∧ r ≤ 255
  · have cl := latin_any r w
    rw [show latB r = true from decide_eq_true h] at cl
    have CL := Lib.hid cl
    have HE := Lib.hid (low_eq r h.1 h.2)
    obtain ⟨h2, h3⟩ := h
    clear cl
    go_enter Tryd.func5, Tryd.ntmps5
    go_wp2_with fail
    refine CL.out.mono ?_
    rintro e w' ⟨rfl, rfl⟩
    go_wp2_with fail
    refine (implToLower_any r w HV.out).mono ?_
    rintro e w' ⟨rfl, q, rfl⟩
    go_wp2_with fail
    refine (toLowerS_any r _ h2 h3).mono ?_
    rintro e w' ⟨rfl, rfl⟩
    rw [HE.out]
    go_wp2
    go_ret
    exact ⟨ret_bool (by simp), bel_drewN (Below.refl _ _) q⟩
  · have cl := latin_any r w
    rw [show latB r = false from decide_eq_false h] at cl
    have CL := Lib.hid cl
    clear cl h
    go_enter Tryd.func5, Tryd.ntmps5
    go_wp2_with fail
    refine CL.out.mono ?_
    rintro e w' ⟨rfl, rfl⟩
    go_wp2
    go_ret
    exact ⟨rfl, Below.refl _ _⟩
theorem fnExactToTitle_walk (r : Int) (w : World) (h0 : -2147483648 ≤ r) (h1 : r ≤ 2147483647) (hL : laidMet Tryd.prog Rows.fnExactToTitleRow.laid w) :
    Calls Tryd.prog 6 #[.int .i32 r] w fun e w' => e = .returned (.bool true) ∧ Below w.heap.size w w' := by
  have HV := Lib.hid (caseVar_of_laid hL (.head _))
  clear hL
  by_cases h : 0 ≤ r ∧ r ≤ 255
  · have cl := latin_any r w
    rw [show latB r = true from decide_eq_true h] at cl
    have CL := Lib.hid cl
    have HE := Lib.hid (tit_eq r h.1 h.2)
    obtain ⟨h2, h3⟩ := h
    clear cl
    go_enter Tryd.func6, Tryd.ntmps6
    go_wp2_with fail
    refine CL.out.mono ?_
    rintro e w' ⟨rfl, rfl⟩
    go_wp2_with fail
    refine (implToTitle_any r w HV.out).mono ?_
    rintro e w' ⟨rfl, q, rfl⟩
    go_wp2_with fail
    refine (toTitleS_any r _ h2 h3).mono ?_
    rintro e w' ⟨rfl, rfl⟩
    rw [HE.out]
    go_wp2
    go_ret
    exact ⟨ret_bool (by simp), bel_drewN (Below.refl _ _) q⟩
  · have cl := latin_any r w
    rw [show latB r = false from decide_eq_false h] at cl
    have CL := Lib.hid cl
    clear cl h
    go_enter Tryd.func6, Tryd.ntmps6
    go_wp2_with fail
    refine CL.out.mono ?_
    rintro e w' ⟨rfl, rfl⟩
    go_wp2
    go_ret
    exact ⟨rfl, Below.refl _ _⟩
end Go.Proofs.YtlpdnaifnnfpjaaDoor
