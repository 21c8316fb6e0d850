/-
  WALK of the law FnFoldExample, and its plain law: the examples of the documentation.
-/
import Derived.Test.YtfdbcjdkikmjiaaDoorRows
import Derived.Test.YtfdbcjdkikmjiaaDoorFold
namespace Go.Proofs.YtfdbcjdkikmjiaaDoor.fnFoldExample
open Go.RowKit Go.Lib
set_option linter.unusedVariables false

theorem consts : Plain.foldI 65 = 97 ∧ Plain.foldI 97 = 65 ∧ Plain.foldI 75 = 107 ∧ Plain.foldI 107 = 8490 ∧ Plain.foldI 8490 = 75 ∧ Plain.foldI 49 = 49 ∧ Plain.foldI (-2) = -2 := ⟨by kernel_rfl, by kernel_rfl, by kernel_rfl, by kernel_rfl, by kernel_rfl, by kernel_rfl, by kernel_rfl⟩

set_option maxHeartbeats 1000000 in
set_option maxRecDepth 100000 in
theorem walk {v : Value} {n : Nat} {w : World} (hC : CodeIs w.heap.size v n w) (hL : laidMet Tryd.prog Rows.fnFoldExampleRow.laid w) :
    Calls Tryd.prog 6 #[v] w fun e w' => e = .returned (.bool true) ∧ Below w.heap.size w w' := by
  have HT := Lib.hid (foldTabs_of_laid hL (.head _) (.tail _ (.head _)) (.tail _ (.tail _ (.head _))))
  have HC := Lib.hid hC
  obtain ⟨a, cap, rfl⟩ := hC.1
  clear hL hC
  by_cases hn : n ≤ 1048576
  · go_enter Tryd.func6, Tryd.ntmps6
    obtain ⟨k1, k2, k3, k4, k5, k6, k7⟩ := consts
    have K1 := Lib.hid k1
    have K2 := Lib.hid k2
    have K3 := Lib.hid k3
    have K4 := Lib.hid k4
    have K5 := Lib.hid k5
    have K6 := Lib.hid k6
    have K7 := Lib.hid k7
    clear k1 k2 k3 k4 k5 k6 k7
    have HT0 := HT
    have HB0 := Lib.hid (Below.refl w.heap.size w)
    go_wp2_with fail
    refine (mapFold _ _ HT0.out).mono ?_
    rintro e w1 ⟨rfl, hT, hb⟩
    have HT1 := Lib.hid hT
    have HB1 := Lib.hid (bel_trans3 HB0.out hb)
    clear hT hb
    rw [K1.out]
    go_wp2_with fail
    refine (mapFold _ _ HT1.out).mono ?_
    rintro e w2 ⟨rfl, hT, hb⟩
    have HT2 := Lib.hid hT
    have HB2 := Lib.hid (bel_trans3 HB1.out hb)
    clear hT hb
    rw [K2.out]
    go_wp2_with fail
    refine (mapFold _ _ HT2.out).mono ?_
    rintro e w3 ⟨rfl, hT, hb⟩
    have HT3 := Lib.hid hT
    have HB3 := Lib.hid (bel_trans3 HB2.out hb)
    clear hT hb
    rw [K3.out]
    go_wp2_with fail
    refine (mapFold _ _ HT3.out).mono ?_
    rintro e w4 ⟨rfl, hT, hb⟩
    have HT4 := Lib.hid hT
    have HB4 := Lib.hid (bel_trans3 HB3.out hb)
    clear hT hb
    rw [K4.out]
    go_wp2_with fail
    refine (mapFold _ _ HT4.out).mono ?_
    rintro e w5 ⟨rfl, hT, hb⟩
    have HT5 := Lib.hid hT
    have HB5 := Lib.hid (bel_trans3 HB4.out hb)
    clear hT hb
    rw [K5.out]
    go_wp2_with fail
    refine (mapFold _ _ HT5.out).mono ?_
    rintro e w6 ⟨rfl, hT, hb⟩
    have HT6 := Lib.hid hT
    have HB6 := Lib.hid (bel_trans3 HB5.out hb)
    clear hT hb
    rw [K6.out]
    go_wp2_with fail
    refine (mapFold _ _ HT6.out).mono ?_
    rintro e w7 ⟨rfl, hT, hb⟩
    have HT7 := Lib.hid hT
    have HB7 := Lib.hid (bel_trans3 HB6.out hb)
    clear hT hb
    rw [K7.out]
    go_wp2
    go_ret
    exact ⟨rfl, HB7.out⟩
  · go_enter Tryd.func6, Tryd.ntmps6
    go_wp2
    go_ret
    exact ⟨rfl, Below.refl _ _⟩
end Go.Proofs.YtfdbcjdkikmjiaaDoor.fnFoldExample
namespace Go.Proofs.YtfdbcjdkikmjiaaDoor
theorem fnFoldExample_walk {v : Value} {n : Nat} {w : World} (hC : CodeIs w.heap.size v n w) (hL : laidMet Tryd.prog Rows.fnFoldExampleRow.laid w) :
    Calls Tryd.prog 6 #[v] w fun e w' => e = .returned (.bool true) ∧ RowKit.Below w.heap.size w w' := fnFoldExample.walk hC hL
end Go.Proofs.YtfdbcjdkikmjiaaDoor
