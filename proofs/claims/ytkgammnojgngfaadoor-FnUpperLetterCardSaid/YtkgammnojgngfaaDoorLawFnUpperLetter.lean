/-
  WALK of the law FnUpperLetter, and its plain law: an upper case letter is a letter.
-/
import Derived.Test.YtkgammnojgngfaaDoorRows
import Derived.Test.YtkgammnojgngfaaDoorClass
import Derived.Test.YtkgammnojgngfaaDoorPlainTabClass
import Derived.Test.YtkgammnojgngfaaDoorDraw
namespace Go.Proofs.YtkgammnojgngfaaDoor.fnUpperLetter
open Go.RowKit Go.Lib
set_option linter.unusedVariables false

theorem at_upper : Plain.allRg (Plain.hasC Plain.letterC) (Plain.flatC Plain.upperC) = true := by kernel_rfl
theorem plain (r : Int) (h0 : -2147483648 ≤ r) (h1 : r ≤ 2147483647) (h : isUpperU r = true) : isLetterU r = true := by
  unfold isUpperU at h
  unfold isLetterU
  by_cases hl : 0 ≤ r ∧ r ≤ 255
  · have e : latin1 r = true := decide_eq_true hl
    rw [e] at h ⊢
    simp only [if_true] at h ⊢
    simp [isLetterL, h]
  · have e : latin1 r = false := decide_eq_false hl
    rw [e] at h ⊢
    simp only [Bool.false_eq_true, if_false] at h ⊢
    by_cases hn : r < 0
    · rw [Plain.excl_neg Plain.upper_fits h0 hn] at h; cases h
    · obtain ⟨k, rfl⟩ : ∃ k : Nat, r = k := ⟨r.toNat, by omega⟩
      rw [Plain.excl_nat Plain.upper_fits k (by omega)] at h
      rw [Plain.excl_nat Plain.letter_fits k (by omega)]
      exact Plain.hasC_all at_upper h
theorem const_eq : isUpperU 65 = true := by kernel_rfl

set_option maxHeartbeats 400000 in
theorem walk {v : Value} {n : Nat} {w : World} (hC : CodeIs w.heap.size v n w) (hL : laidMet Tryd.prog Rows.fnUpperLetterRow.laid w) :
    Calls Tryd.prog 12 #[v] w fun e w' => e = .returned (.bool true) ∧ Below w.heap.size w w' := by
  have HP := Lib.hid (props_tab hL (.head _))
  have HV := Lib.hid (letter_of_laid hL (.tail _ (.head _)))
  have HU := Lib.hid (upper_of_laid hL (.tail _ (.tail _ (.head _))))
  have HC := Lib.hid hC
  obtain ⟨a, cap, rfl⟩ := hC.1
  clear hL hC
  by_cases hn : n ≤ 1048576
  · go_enter Tryd.func12, Tryd.ntmps12
    go_wp2_with fail
    refine (isUpper_any 65 _ (by omega) (by omega) HP.out HU.out).mono ?_
    rintro e w1 ⟨rfl, hb⟩
    have HP1 := Lib.hid (propTab_below HP.out hb)
    have HU1 := Lib.hid (RVar_below HU.out hb)
    have HV1 := Lib.hid (RVar_below HV.out hb)
    have HB1 := Lib.hid hb
    have HC1 := Lib.hid ((HC.out.below hb).mono hb.size)
    clear hb
    rw [const_eq]
    go_wp2_with fail
    refine (draw_any HC1.out hn).mono ?_
    rintro e w2 ⟨r, h0, h1, rfl, hb⟩
    have HP2 := Lib.hid (propTab_below HP1.out hb)
    have HU2 := Lib.hid (RVar_below HU1.out hb)
    have HV2 := Lib.hid (RVar_below HV1.out hb)
    have HB2 := Lib.hid (bel_trans' HB1.out hb)
    clear hb
    have PL := Lib.hid (plain r h0 h1)
    go_wp2_with fail
    refine (isUpper_any r _ h0 h1 HP2.out HU2.out).mono ?_
    rintro e w3 ⟨rfl, hb⟩
    have HP3 := Lib.hid (propTab_below HP2.out hb)
    have HU3 := Lib.hid (RVar_below HU2.out hb)
    have HV3 := Lib.hid (RVar_below HV2.out hb)
    have HB3 := Lib.hid (bel_trans' HB2.out hb)
    clear hb
    cases hu : isUpperU r with
    | false =>
      clear hu
      go_wp2
      go_ret
      exact ⟨rfl, HB3.out⟩
    | true =>
      have HL := Lib.hid (PL.out hu)
      clear hu
      go_wp2_with fail
      refine (isLetter_any r _ h0 h1 HP3.out HV3.out).mono ?_
      rintro e w4 ⟨rfl, hb⟩
      have HB4 := Lib.hid (bel_trans' HB3.out hb)
      clear hb
      rw [HL.out]
      go_wp2
      go_ret
      exact ⟨rfl, HB4.out⟩
  · go_enter Tryd.func12, Tryd.ntmps12
    go_wp2
    go_ret
    exact ⟨rfl, Below.refl _ _⟩
end Go.Proofs.YtkgammnojgngfaaDoor.fnUpperLetter
namespace Go.Proofs.YtkgammnojgngfaaDoor
theorem fnUpperLetter_walk {v : Value} {n : Nat} {w : World} (hC : CodeIs w.heap.size v n w) (hL : laidMet Tryd.prog Rows.fnUpperLetterRow.laid w) :
    Calls Tryd.prog 12 #[v] w fun e w' => e = .returned (.bool true) ∧ RowKit.Below w.heap.size w w' := fnUpperLetter.walk hC hL
end Go.Proofs.YtkgammnojgngfaaDoor
