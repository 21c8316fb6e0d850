/-
  WALK of the law FnToTitle: ToTitle of the first 256 numbers against the reference.
-/
import Derived.Test.YtgbcidkplanapaaDoorRows
import Derived.Test.YtgbcidkplanapaaDoorCase
import Derived.Test.YtgbcidkplanapaaDoorLatinCase
import Derived.Test.YtgbcidkplanapaaDoorSpecUp
import Derived.Test.YtgbcidkplanapaaDoorDrawLatin
namespace Go.Proofs.YtgbcidkplanapaaDoor
open Go.RowKit Go.Lib
set_option linter.unusedVariables false

set_option maxHeartbeats 400000 in
theorem fnToTitle_walk {v : Value} {n : Nat} {w : World} (hC : CodeIs w.heap.size v n w) (hL : laidMet Tryd.prog Rows.fnToTitleRow.laid w) :
    Calls Tryd.prog 4 #[v] w fun e w' => e = .returned (.bool true) ∧ Below w.heap.size w w' := by
  have HV := Lib.hid (caseVar_of_laid hL (.head _))
  have HC := Lib.hid hC
  obtain ⟨a, cap, rfl⟩ := hC.1
  clear hL hC
  by_cases hn : n ≤ 1048576
  · go_enter Tryd.func4, Tryd.ntmps4
    go_wp2_with fail
    refine (drawLatin_any HC.out hn).mono ?_
    rintro e w1 ⟨r, hr, rfl, hb⟩
    have HV1 := Lib.hid (caseVar_below HV.out hb)
    have HB := Lib.hid hb
    have HE := Lib.hid (tit_eq (r : Int) (by omega) (by omega))
    clear hb
    go_wp2_with fail
    refine (implToTitle_any _ w1 HV1.out).mono ?_
    rintro e w' ⟨rfl, q, rfl⟩
    go_wp2_with fail
    refine (toTitleS_any _ _ (by omega) (by omega)).mono ?_
    rintro e w' ⟨rfl, rfl⟩
    rw [HE.out]
    go_wp2
    go_ret
    exact ⟨ret_bool (by simp), bel_drewN HB.out q⟩
  · go_enter Tryd.func4, Tryd.ntmps4
    go_wp2
    go_ret
    exact ⟨rfl, Below.refl _ _⟩
end Go.Proofs.YtgbcidkplanapaaDoor
