/-
  WALK of the law FnFoldTurkish, and its plain law: the two letters of Turkish are folded to themselves.
-/
import Derived.Test.YtfdbcjdkikmjiaaDoorRows
import Derived.Test.YtfdbcjdkikmjiaaDoorFold
namespace Go.Proofs.YtfdbcjdkikmjiaaDoor.fnFoldTurkish
open Go.RowKit Go.Lib
set_option linter.unusedVariables false

theorem consts : Plain.foldI 304 = 304 ∧ Plain.foldI 305 = 305 := ⟨by kernel_rfl, by kernel_rfl⟩

set_option maxHeartbeats 1000000 in
set_option maxRecDepth 100000 in
theorem walk {v : Value} {n : Nat} {w : World} (hC : CodeIs w.heap.size v n w) (hL : laidMet Tryd.prog Rows.fnFoldTurkishRow.laid w) :
    Calls Tryd.prog 7 #[v] w fun e w' => e = .returned (.bool true) ∧ Below w.heap.size w w' := by
  have HT := Lib.hid (foldTabs_of_laid hL (.head _) (.tail _ (.head _)) (.tail _ (.tail _ (.head _))))
  have HC := Lib.hid hC
  obtain ⟨a, cap, rfl⟩ := hC.1
  clear hL hC
  by_cases hn : n ≤ 1048576
  · go_enter Tryd.func7, Tryd.ntmps7
    obtain ⟨k1, k2⟩ := consts
    have K1 := Lib.hid k1
    have K2 := Lib.hid k2
    clear k1 k2
    have HT0 := HT
    have HB0 := Lib.hid (Below.refl w.heap.size w)
    go_wp2_with fail
    refine (mapFold _ _ HT0.out).mono ?_
    rintro e w1 ⟨rfl, hT, hb⟩
    have HT1 := Lib.hid hT
    have HB1 := Lib.hid (bel_trans3 HB0.out hb)
    clear hT hb
    rw [K1.out]
    go_wp2_with fail
    refine (mapFold _ _ HT1.out).mono ?_
    rintro e w2 ⟨rfl, hT, hb⟩
    have HT2 := Lib.hid hT
    have HB2 := Lib.hid (bel_trans3 HB1.out hb)
    clear hT hb
    rw [K2.out]
    go_wp2
    go_ret
    exact ⟨rfl, HB2.out⟩
  · go_enter Tryd.func7, Tryd.ntmps7
    go_wp2
    go_ret
    exact ⟨rfl, Below.refl _ _⟩
end Go.Proofs.YtfdbcjdkikmjiaaDoor.fnFoldTurkish
namespace Go.Proofs.YtfdbcjdkikmjiaaDoor
theorem fnFoldTurkish_walk {v : Value} {n : Nat} {w : World} (hC : CodeIs w.heap.size v n w) (hL : laidMet Tryd.prog Rows.fnFoldTurkishRow.laid w) :
    Calls Tryd.prog 7 #[v] w fun e w' => e = .returned (.bool true) ∧ RowKit.Below w.heap.size w w' := fnFoldTurkish.walk hC hL
end Go.Proofs.YtfdbcjdkikmjiaaDoor
