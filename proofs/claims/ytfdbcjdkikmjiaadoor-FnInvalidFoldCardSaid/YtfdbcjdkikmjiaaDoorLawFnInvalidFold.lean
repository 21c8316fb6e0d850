/-
  WALK of the law FnInvalidFold, and its plain law: a number that is no code point is folded to itself.
-/
import Derived.Test.YtfdbcjdkikmjiaaDoorRows
import Derived.Test.YtfdbcjdkikmjiaaDoorFold
import Derived.Test.YtfdbcjdkikmjiaaDoorDraw
import Derived.Test.YtfdbcjdkikmjiaaDoorSpecValid
namespace Go.Proofs.YtfdbcjdkikmjiaaDoor.fnInvalidFold
open Go.RowKit Go.Lib
set_option linter.unusedVariables false

set_option maxHeartbeats 400000 in
theorem walk {v : Value} {n : Nat} {w : World} (hC : CodeIs w.heap.size v n w) (hL : laidMet Tryd.prog Rows.fnInvalidFoldRow.laid w) :
    Calls Tryd.prog 10 #[v] w fun e w' => e = .returned (.bool true) ∧ Below w.heap.size w w' := by
  have HT := Lib.hid (foldTabs_of_laid hL (.head _) (.tail _ (.head _)) (.tail _ (.tail _ (.head _))))
  have HC := Lib.hid hC
  obtain ⟨a, cap, rfl⟩ := hC.1
  clear hL hC
  by_cases hn : n ≤ 1048576
  · go_enter Tryd.func10, Tryd.ntmps10
    go_wp2_with fail
    refine (draw_any HC.out hn).mono ?_
    rintro e w1 ⟨r, h0, h1, rfl, hb⟩
    have HT1 := Lib.hid (foldTabs_below HT.out hb)
    have HB1 := Lib.hid hb
    clear hb
    by_cases hv : 0 ≤ r ∧ r ≤ 1114111
    · go_wp2_with fail
      refine (valid_yes r w1 hv).mono ?_
      rintro e w' ⟨rfl, rfl⟩
      go_wp2
      go_ret
      exact ⟨rfl, HB1.out⟩
    · go_wp2_with fail
      refine (valid_no r w1 hv).mono ?_
      rintro e w' ⟨rfl, rfl⟩
      have HF := Lib.hid (foldZ_far hv)
      clear hv
      go_wp2_with fail
      refine (mapFold _ _ HT1.out).mono ?_
      rintro e w2 ⟨rfl, hT, hb⟩
      have HT2 := Lib.hid hT
      have HB2 := Lib.hid (bel_trans3 HB1.out hb)
      clear hT hb
      rw [HF.out]
      go_wp2
      go_ret
      exact ⟨by simp, HB2.out⟩
  · go_enter Tryd.func10, Tryd.ntmps10
    go_wp2
    go_ret
    exact ⟨rfl, Below.refl _ _⟩
end Go.Proofs.YtfdbcjdkikmjiaaDoor.fnInvalidFold
namespace Go.Proofs.YtfdbcjdkikmjiaaDoor
theorem fnInvalidFold_walk {v : Value} {n : Nat} {w : World} (hC : CodeIs w.heap.size v n w) (hL : laidMet Tryd.prog Rows.fnInvalidFoldRow.laid w) :
    Calls Tryd.prog 10 #[v] w fun e w' => e = .returned (.bool true) ∧ RowKit.Below w.heap.size w w' := fnInvalidFold.walk hC hL
end Go.Proofs.YtfdbcjdkikmjiaaDoor
