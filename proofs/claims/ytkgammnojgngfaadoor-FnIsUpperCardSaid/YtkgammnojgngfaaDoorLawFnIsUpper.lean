/-
  WALK of the law FnIsUpper: IsUpper against the reference.
-/
import Derived.Test.YtkgammnojgngfaaDoorRows
import Derived.Test.YtkgammnojgngfaaDoorClass
import Derived.Test.YtkgammnojgngfaaDoorLatinClass
import Derived.Test.YtkgammnojgngfaaDoorDrawLatin
namespace Go.Proofs.YtkgammnojgngfaaDoor
open Go.RowKit Go.Lib
set_option linter.unusedVariables false

set_option maxHeartbeats 400000 in
theorem fnIsUpper_walk {v : Value} {n : Nat} {w : World} (hC : CodeIs w.heap.size v n w) (hL : laidMet Tryd.prog Rows.fnIsUpperRow.laid w) :
    Calls Tryd.prog 9 #[v] w fun e w' => e = .returned (.bool true) ∧ Below w.heap.size w w' := by
  have HP := Lib.hid (props_tab hL (.head _))
  have HV := Lib.hid (upper_of_laid hL (.tail _ (.head _)))
  have HC := Lib.hid hC
  obtain ⟨a, cap, rfl⟩ := hC.1
  clear hL hC
  by_cases hn : n ≤ 1048576
  · go_enter Tryd.func9, Tryd.ntmps9
    go_wp2_with fail
    refine (drawLatin_any HC.out hn).mono ?_
    rintro e w1 ⟨r, hr, rfl, hb⟩
    have HE := Lib.hid (isUpper_eq (r : Int) (by omega) (by omega))
    have HP1 := Lib.hid (propTab_below HP.out hb)
    have HV1 := Lib.hid (RVar_below HV.out hb)
    have HB1 := Lib.hid hb
    clear hb
    go_wp2_with fail
    refine (isUpper_any _ w1 (by omega) (by omega) HP1.out HV1.out).mono ?_
    rintro e w2 ⟨rfl, hb⟩
    have HB := Lib.hid (bel_trans' HB1.out hb)
    clear hb
    go_wp2_with fail
    refine (specUpper_any _ _).mono ?_
    rintro e w' ⟨rfl, rfl⟩
    go_wp2
    go_ret
    exact ⟨ret_beq HE.out, HB.out⟩
  · go_enter Tryd.func9, Tryd.ntmps9
    go_wp2
    go_ret
    exact ⟨rfl, Below.refl _ _⟩
end Go.Proofs.YtkgammnojgngfaaDoor
