/-
  WALK of the law FnTitleUpper, and its plain law: the title case has the upper case that the number has.
-/
import Derived.Test.YtgbcidkplanapaaDoorRows
import Derived.Test.YtgbcidkplanapaaDoorCase
import Derived.Test.YtgbcidkplanapaaDoorPlainCase
import Derived.Test.YtgbcidkplanapaaDoorDraw
namespace Go.Proofs.YtgbcidkplanapaaDoor.fnTitleUpper
open Go.RowKit Go.Lib
set_option linter.unusedVariables false

theorem at_special : Plain.specAll (fun r => Nat.beq (Plain.upN (Plain.titN r)) (Plain.upN r)) = true := by kernel_rfl
theorem plain (r : Int) : toUpperU (toTitleU r) = toUpperU r := by
  by_cases h : r < 0
  · rw [Plain.toTitleU_neg h]
  · obtain ⟨k, rfl⟩ : ∃ k : Nat, r = k := ⟨r.toNat, by omega⟩
    rw [Plain.toTitleU_nat, Plain.toUpperU_nat, Plain.toUpperU_nat]
    rcases Plain.special at_special k with hq | ho
    · rw [Nat.eq_of_beq_eq_true hq]
    · rw [ho.tit]

theorem const_eq : toTitleU 97 = 65 := by kernel_rfl
theorem ret_eq {a b : Int} (h : a = b) : Ending.returned (.bool (a == b)) = .returned (.bool true) := by rw [h]; simp

set_option maxHeartbeats 400000 in
theorem walk {v : Value} {n : Nat} {w : World} (hC : CodeIs w.heap.size v n w) (hL : laidMet Tryd.prog Rows.fnTitleUpperRow.laid w) :
    Calls Tryd.prog 9 #[v] w fun e w' => e = .returned (.bool true) ∧ Below w.heap.size w w' := by
  have HV := Lib.hid (caseVar_of_laid hL (.head _))
  have HC := Lib.hid hC
  obtain ⟨a, cap, rfl⟩ := hC.1
  clear hL hC
  by_cases hn : n ≤ 1048576
  · go_enter Tryd.func9, Tryd.ntmps9
    go_wp2_with fail
    refine (mapTit _ _ HV.out).mono ?_
    rintro e w1 ⟨rfl, hV, hb⟩
    have HV1 := Lib.hid hV
    have HB1 := Lib.hid hb
    have HC1 := Lib.hid ((HC.out.below hb).mono hb.size)
    clear hV hb
    rw [const_eq]
    go_wp2_with fail
    refine (draw_any HC1.out hn).mono ?_
    rintro e w2 ⟨r, h0, h1, rfl, hb⟩
    have HV2 := Lib.hid (caseVar_below HV1.out hb)
    have HB2 := Lib.hid (bel_trans HB1.out hb)
    clear hb
    go_wp2_with fail
    refine (mapTit _ _ HV2.out).mono ?_
    rintro e w3 ⟨rfl, hV, hb⟩
    have HV3 := Lib.hid hV
    have HB3 := Lib.hid (bel_trans HB2.out hb)
    clear hV hb
    go_wp2_with fail
    refine (mapUp _ _ HV3.out).mono ?_
    rintro e w4 ⟨rfl, hV, hb⟩
    have HV4 := Lib.hid hV
    have HB4 := Lib.hid (bel_trans HB3.out hb)
    clear hV hb
    go_wp2_with fail
    refine (mapUp _ _ HV4.out).mono ?_
    rintro e w5 ⟨rfl, hV, hb⟩
    have HV5 := Lib.hid hV
    have HB5 := Lib.hid (bel_trans HB4.out hb)
    clear hV hb
    go_wp2
    go_ret
    exact ⟨ret_eq (plain r), HB5.out⟩
  · go_enter Tryd.func9, Tryd.ntmps9
    go_wp2
    go_ret
    exact ⟨rfl, Below.refl _ _⟩
end Go.Proofs.YtgbcidkplanapaaDoor.fnTitleUpper
namespace Go.Proofs.YtgbcidkplanapaaDoor
theorem fnTitleUpper_walk {v : Value} {n : Nat} {w : World} (hC : CodeIs w.heap.size v n w) (hL : laidMet Tryd.prog Rows.fnTitleUpperRow.laid w) :
    Calls Tryd.prog 9 #[v] w fun e w' => e = .returned (.bool true) ∧ RowKit.Below w.heap.size w w' := fnTitleUpper.walk hC hL
end Go.Proofs.YtgbcidkplanapaaDoor
