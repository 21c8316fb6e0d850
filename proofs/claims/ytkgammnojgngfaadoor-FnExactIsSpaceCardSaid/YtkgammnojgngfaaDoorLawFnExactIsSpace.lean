/-
  WALK of the law FnExactIsSpace: IsSpace against the reference.
-/
import Derived.Test.YtkgammnojgngfaaDoorRows
import Derived.Test.YtkgammnojgngfaaDoorClass
import Derived.Test.YtkgammnojgngfaaDoorLatinClass
namespace Go.Proofs.YtkgammnojgngfaaDoor
open Go.RowKit Go.Lib
set_option linter.unusedVariables false

theorem fnExactIsSpace_walk (r : Int) (w : World) (h0 : -2147483648 ≤ r) (h1 : r ≤ 2147483647) (hL : laidMet Tryd.prog Rows.fnExactIsSpaceRow.laid w) :
    Calls Tryd.prog 10 #[.int .i32 r] w fun e w' => e = .returned (.bool true) ∧ Below w.heap.size w w' := by
  have HV := Lib.hid (white_of_laid hL (.head _))
  clear hL
  have HE := Lib.hid (isSpace_eq r)
  go_enter Tryd.func10, Tryd.ntmps10
  go_wp2_with fail
  refine (isSpace_any r w h0 h1 HV.out).mono ?_
  rintro e w1 ⟨rfl, hb⟩
  have HB := Lib.hid hb
  clear hb
  go_wp2_with fail
  refine (specSpace_any r _).mono ?_
  rintro e w' ⟨rfl, rfl⟩
  go_wp2
  go_ret
  exact ⟨ret_beq HE.out, HB.out⟩
end Go.Proofs.YtkgammnojgngfaaDoor
