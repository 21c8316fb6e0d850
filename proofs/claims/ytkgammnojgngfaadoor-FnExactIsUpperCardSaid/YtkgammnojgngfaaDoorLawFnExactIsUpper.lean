/-
  WALK of the law FnExactIsUpper: IsUpper against the reference.
-/
import Derived.Test.YtkgammnojgngfaaDoorRows
import Derived.Test.YtkgammnojgngfaaDoorClass
import Derived.Test.YtkgammnojgngfaaDoorLatinClass
import Derived.Test.YtkgammnojgngfaaDoorSpecLatin
namespace Go.Proofs.YtkgammnojgngfaaDoor
open Go.RowKit Go.Lib
set_option linter.unusedVariables false

theorem fnExactIsUpper_walk (r : Int) (w : World) (h0 : -2147483648 ≤ r) (h1 : r ≤ 2147483647) (hL : laidMet Tryd.prog Rows.fnExactIsUpperRow.laid w) :
    Calls Tryd.prog 8 #[.int .i32 r] w fun e w' => e = .returned (.bool true) ∧ Below w.heap.size w w' := by
  have HP := Lib.hid (props_tab hL (.head _))
  have HV := Lib.hid (upper_of_laid hL (.tail _ (.head _)))
  clear hL
  by_cases h : 0 ≤ r ∧ r ≤ 255
  · have cl := latin_any r w
    rw [show latB r = true from decide_eq_true h] at cl
    have CL := Lib.hid cl
    have HE := Lib.hid (isUpper_eq r h.1 h.2)
    clear cl h
    go_enter Tryd.func8, Tryd.ntmps8
    go_wp2_with fail
    refine CL.out.mono ?_
    rintro e w' ⟨rfl, rfl⟩
    go_wp2_with fail
    refine (isUpper_any r w h0 h1 HP.out HV.out).mono ?_
    rintro e w1 ⟨rfl, hb⟩
    have HB := Lib.hid hb
    clear hb
    go_wp2_with fail
    refine (specUpper_any r _).mono ?_
    rintro e w' ⟨rfl, rfl⟩
    go_wp2
    go_ret
    exact ⟨ret_beq HE.out, HB.out⟩
  · have cl := latin_any r w
    rw [show latB r = false from decide_eq_false h] at cl
    have CL := Lib.hid cl
    clear cl h
    go_enter Tryd.func8, Tryd.ntmps8
    go_wp2_with fail
    refine CL.out.mono ?_
    rintro e w' ⟨rfl, rfl⟩
    go_wp2
    go_ret
    exact ⟨rfl, Below.refl _ _⟩
end Go.Proofs.YtkgammnojgngfaaDoor
