/-
  WALK of the law FnSimpleFold: SimpleFold of the first 256 numbers against the reference.
-/
import Derived.Test.YtfdbcjdkikmjiaaDoorRows
import Derived.Test.YtfdbcjdkikmjiaaDoorFold
import Derived.Test.YtfdbcjdkikmjiaaDoorSpecFold
import Derived.Test.YtfdbcjdkikmjiaaDoorDrawLatin
namespace Go.Proofs.YtfdbcjdkikmjiaaDoor
open Go.RowKit Go.Lib
set_option linter.unusedVariables false

set_option maxHeartbeats 400000 in
theorem fnSimpleFold_walk {v : Value} {n : Nat} {w : World} (hC : CodeIs w.heap.size v n w) (hL : laidMet Tryd.prog Rows.fnSimpleFoldRow.laid w) :
    Calls Tryd.prog 11 #[v] w fun e w' => e = .returned (.bool true) ∧ Below w.heap.size w w' := by
  have HT := Lib.hid (foldTabs_of_laid hL (.head _) (.tail _ (.head _)) (.tail _ (.tail _ (.head _))))
  have HC := Lib.hid hC
  obtain ⟨a, cap, rfl⟩ := hC.1
  clear hL hC
  by_cases hn : n ≤ 1048576
  · go_enter Tryd.func11, Tryd.ntmps11
    go_wp2_with fail
    refine (drawLatin_any HC.out hn).mono ?_
    rintro e w1 ⟨r, hr, rfl, hb⟩
    have HT1 := Lib.hid (foldTabs_below HT.out hb)
    have HB1 := Lib.hid hb
    have HE := Lib.hid (fold_eq (r : Int) (by omega) (by omega))
    clear hb
    go_wp2_with fail
    refine (mapFold _ _ HT1.out).mono ?_
    rintro e w2 ⟨rfl, hT, hb⟩
    have HT2 := Lib.hid hT
    have HB2 := Lib.hid (bel_trans3 HB1.out hb)
    clear hT hb
    go_wp2_with fail
    refine (foldS_any _ _ (by omega) (by omega)).mono ?_
    rintro e w' ⟨rfl, rfl⟩
    rw [HE.out]
    go_wp2
    go_ret
    exact ⟨by simp, HB2.out⟩
  · go_enter Tryd.func11, Tryd.ntmps11
    go_wp2
    go_ret
    exact ⟨rfl, Below.refl _ _⟩
end Go.Proofs.YtfdbcjdkikmjiaaDoor
