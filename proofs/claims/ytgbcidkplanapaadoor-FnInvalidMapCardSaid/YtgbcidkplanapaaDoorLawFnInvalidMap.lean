/-
  WALK of the law FnInvalidMap, and its plain law: a number that is no code point is mapped to itself.
-/
import Derived.Test.YtgbcidkplanapaaDoorRows
import Derived.Test.YtgbcidkplanapaaDoorCase
import Derived.Test.YtgbcidkplanapaaDoorPlainFar
import Derived.Test.YtgbcidkplanapaaDoorSpecValid
import Derived.Test.YtgbcidkplanapaaDoorDraw
namespace Go.Proofs.YtgbcidkplanapaaDoor.fnInvalidMap
open Go.RowKit Go.Lib
set_option linter.unusedVariables false

set_option maxHeartbeats 400000 in
theorem walk {v : Value} {n : Nat} {w : World} (hC : CodeIs w.heap.size v n w) (hL : laidMet Tryd.prog Rows.fnInvalidMapRow.laid w) :
    Calls Tryd.prog 11 #[v] w fun e w' => e = .returned (.bool true) ∧ Below w.heap.size w w' := by
  have HV := Lib.hid (caseVar_of_laid hL (.head _))
  have HC := Lib.hid hC
  obtain ⟨a, cap, rfl⟩ := hC.1
  clear hL hC
  by_cases hn : n ≤ 1048576
  · go_enter Tryd.func11, Tryd.ntmps11
    go_wp2_with fail
    refine (draw_any HC.out hn).mono ?_
    rintro e w1 ⟨r, h0, h1, rfl, hb⟩
    have HV1 := Lib.hid (caseVar_below HV.out hb)
    have HB1 := Lib.hid hb
    clear hb
    by_cases hv : 0 ≤ r ∧ r ≤ 1114111
    · go_wp2_with fail
      refine (valid_yes r w1 hv).mono ?_
      rintro e w' ⟨rfl, rfl⟩
      go_wp2
      go_ret
      exact ⟨rfl, HB1.out⟩
    · go_wp2_with fail
      refine (valid_no r w1 hv).mono ?_
      rintro e w' ⟨rfl, rfl⟩
      have HU := Lib.hid (Plain.far_up hv)
      have HW := Lib.hid (Plain.far_low hv)
      have HT := Lib.hid (Plain.far_tit hv)
      clear hv
      go_wp2_with fail
      refine (mapUp _ _ HV1.out).mono ?_
      rintro e w2 ⟨rfl, hV, hb⟩
      have HV2 := Lib.hid hV
      have HB2 := Lib.hid (bel_trans HB1.out hb)
      clear hV hb
      rw [HU.out]
      go_wp2_with fail
      refine (mapLow _ _ HV2.out).mono ?_
      rintro e w3 ⟨rfl, hV, hb⟩
      have HV3 := Lib.hid hV
      have HB3 := Lib.hid (bel_trans HB2.out hb)
      clear hV hb
      rw [HW.out]
      go_wp2_with fail
      refine (mapTit _ _ HV3.out).mono ?_
      rintro e w4 ⟨rfl, hV, hb⟩
      have HV4 := Lib.hid hV
      have HB4 := Lib.hid (bel_trans HB3.out hb)
      clear hV hb
      rw [HT.out]
      go_wp2
      go_ret
      exact ⟨by simp, HB4.out⟩
  · go_enter Tryd.func11, Tryd.ntmps11
    go_wp2
    go_ret
    exact ⟨rfl, Below.refl _ _⟩
end Go.Proofs.YtgbcidkplanapaaDoor.fnInvalidMap
namespace Go.Proofs.YtgbcidkplanapaaDoor
theorem fnInvalidMap_walk {v : Value} {n : Nat} {w : World} (hC : CodeIs w.heap.size v n w) (hL : laidMet Tryd.prog Rows.fnInvalidMapRow.laid w) :
    Calls Tryd.prog 11 #[v] w fun e w' => e = .returned (.bool true) ∧ RowKit.Below w.heap.size w w' := fnInvalidMap.walk hC hL
end Go.Proofs.YtgbcidkplanapaaDoor
