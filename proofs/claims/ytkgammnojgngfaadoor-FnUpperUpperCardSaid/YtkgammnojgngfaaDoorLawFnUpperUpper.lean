/-
  WALK of the law FnUpperUpper, and its plain law: an upper case letter is its own upper case.
-/
import Derived.Test.YtkgammnojgngfaaDoorRows
import Derived.Test.YtkgammnojgngfaaDoorClass
import Derived.Test.YtkgammnojgngfaaDoorCaseUpOnly
import Derived.Test.YtkgammnojgngfaaDoorPlainTabClass
import Derived.Test.YtkgammnojgngfaaDoorPlainCase
import Derived.Test.YtkgammnojgngfaaDoorDraw
namespace Go.Proofs.YtkgammnojgngfaaDoor.fnUpperUpper
open Go.RowKit Go.Lib
set_option linter.unusedVariables false

theorem at_upper : Plain.allRg (fun r => Nat.beq (Plain.upN r) r) (Plain.flatC Plain.upperC) = true := by kernel_rfl
theorem at_latin : ((List.range 256).all fun k => !isUpperL (k : Int) || Nat.beq (Plain.upN k) k) = true := by kernel_rfl
theorem plain (r : Int) (h0 : -2147483648 ≤ r) (h1 : r ≤ 2147483647) (h : isUpperU r = true) : toUpperU r = r := by
  unfold isUpperU at h
  by_cases hn : r < 0
  · exact Plain.toUpperU_neg hn
  · obtain ⟨k, rfl⟩ : ∃ k : Nat, r = k := ⟨r.toNat, by omega⟩
    rw [Plain.toUpperU_nat]
    by_cases hl : k ≤ 255
    · have e : latin1 (k : Int) = true := decide_eq_true (by omega)
      rw [e] at h
      simp only [if_true] at h
      have := List.all_eq_true.1 at_latin k (List.mem_range.2 (by omega))
      rw [h] at this
      simp only [Bool.not_true, Bool.false_or] at this
      rw [Nat.eq_of_beq_eq_true this]
    · have e : latin1 (k : Int) = false := decide_eq_false (by omega)
      rw [e] at h
      simp only [Bool.false_eq_true, if_false] at h
      rw [Plain.excl_nat Plain.upper_fits k (by omega)] at h
      rw [Nat.eq_of_beq_eq_true (Plain.hasC_all at_upper h)]
theorem const_eq : isUpperU 65 = true := by kernel_rfl

set_option maxHeartbeats 400000 in
theorem walk {v : Value} {n : Nat} {w : World} (hC : CodeIs w.heap.size v n w) (hL : laidMet Tryd.prog Rows.fnUpperUpperRow.laid w) :
    Calls Tryd.prog 13 #[v] w fun e w' => e = .returned (.bool true) ∧ Below w.heap.size w w' := by
  have HP := Lib.hid (props_tab hL (.head _))
  have HV := Lib.hid (caseVar_of_laid hL (.tail _ (.head _)))
  have HU := Lib.hid (upper_of_laid hL (.tail _ (.tail _ (.head _))))
  have HC := Lib.hid hC
  obtain ⟨a, cap, rfl⟩ := hC.1
  clear hL hC
  by_cases hn : n ≤ 1048576
  · go_enter Tryd.func13, Tryd.ntmps13
    go_wp2_with fail
    refine (isUpper_any 65 _ (by omega) (by omega) HP.out HU.out).mono ?_
    rintro e w1 ⟨rfl, hb⟩
    have HP1 := Lib.hid (propTab_below HP.out hb)
    have HU1 := Lib.hid (RVar_below HU.out hb)
    have HV1 := Lib.hid (caseVar_below HV.out hb)
    have HB1 := Lib.hid hb
    have HC1 := Lib.hid ((HC.out.below hb).mono hb.size)
    clear hb
    rw [const_eq]
    go_wp2_with fail
    refine (draw_any HC1.out hn).mono ?_
    rintro e w2 ⟨r, h0, h1, rfl, hb⟩
    have HP2 := Lib.hid (propTab_below HP1.out hb)
    have HU2 := Lib.hid (RVar_below HU1.out hb)
    have HV2 := Lib.hid (caseVar_below HV1.out hb)
    have HB2 := Lib.hid (bel_trans' HB1.out hb)
    clear hb
    have PL := Lib.hid (plain r h0 h1)
    go_wp2_with fail
    refine (isUpper_any r _ h0 h1 HP2.out HU2.out).mono ?_
    rintro e w3 ⟨rfl, hb⟩
    have HP3 := Lib.hid (propTab_below HP2.out hb)
    have HU3 := Lib.hid (RVar_below HU2.out hb)
    have HV3 := Lib.hid (caseVar_below HV2.out hb)
    have HB3 := Lib.hid (bel_trans' HB2.out hb)
    clear hb
    cases hu : isUpperU r with
    | false =>
      clear hu
      go_wp2
      go_ret
      exact ⟨rfl, HB3.out⟩
    | true =>
      have HL := Lib.hid (PL.out hu)
      clear hu
      go_wp2_with fail
      refine (mapUp r _ HV3.out).mono ?_
      rintro e w4 ⟨rfl, hV, hb⟩
      have HB4 := Lib.hid (bel_trans' HB3.out hb)
      clear hb hV
      rw [HL.out]
      go_wp2
      go_ret
      exact ⟨by simp, HB4.out⟩
  · go_enter Tryd.func13, Tryd.ntmps13
    go_wp2
    go_ret
    exact ⟨rfl, Below.refl _ _⟩
end Go.Proofs.YtkgammnojgngfaaDoor.fnUpperUpper
namespace Go.Proofs.YtkgammnojgngfaaDoor
theorem fnUpperUpper_walk {v : Value} {n : Nat} {w : World} (hC : CodeIs w.heap.size v n w) (hL : laidMet Tryd.prog Rows.fnUpperUpperRow.laid w) :
    Calls Tryd.prog 13 #[v] w fun e w' => e = .returned (.bool true) ∧ RowKit.Below w.heap.size w w' := fnUpperUpper.walk hC hL
end Go.Proofs.YtkgammnojgngfaaDoor
