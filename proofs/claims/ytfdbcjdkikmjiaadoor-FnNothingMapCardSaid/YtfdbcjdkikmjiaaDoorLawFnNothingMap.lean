/-
  WALK of the law FnNothingMap, and its plain law: a code point that is no character for ever is mapped to itself.
-/
import Derived.Test.YtfdbcjdkikmjiaaDoorRows
import Derived.Test.YtfdbcjdkikmjiaaDoorFold
import Derived.Test.YtfdbcjdkikmjiaaDoorCase
import Derived.Test.YtfdbcjdkikmjiaaDoorPlainNothing
import Derived.Test.YtfdbcjdkikmjiaaDoorDrawNothing
namespace Go.Proofs.YtfdbcjdkikmjiaaDoor.fnNothingMap
open Go.RowKit Go.Lib
set_option linter.unusedVariables false

set_option maxHeartbeats 1000000 in
set_option maxRecDepth 100000 in
theorem walk {v : Value} {n : Nat} {w : World} (hC : CodeIs w.heap.size v n w) (hL : laidMet Tryd.prog Rows.fnNothingMapRow.laid w) :
    Calls Tryd.prog 14 #[v] w fun e w' => e = .returned (.bool true) ∧ Below w.heap.size w w' := by
  have HT := Lib.hid (foldTabs_of_laid hL (.head _) (.tail _ (.head _)) (.tail _ (.tail _ (.head _))))
  have HC := Lib.hid hC
  obtain ⟨a, cap, rfl⟩ := hC.1
  clear hL hC
  by_cases hn : n ≤ 1048576
  · go_enter Tryd.func14, Tryd.ntmps14
    go_wp2_with fail
    refine (drawNothing_any HC.out hn).mono ?_
    rintro e w1 ⟨r, h0, h1, rfl, hb⟩
    have HT1 := Lib.hid (foldTabs_below HT.out hb)
    have HB1 := Lib.hid hb
    clear hb
    go_wp2_with fail
    refine (nothing_any r w1).mono ?_
    rintro e w' ⟨rfl, rfl⟩
    cases hno : nothB r with
    | false =>
      clear hno
      go_wp2
      go_ret
      exact ⟨rfl, HB1.out⟩
    | true =>
      by_cases hv : 0 ≤ r ∧ r ≤ 1114111
      · obtain ⟨u, l, t, f⟩ := nothing_own hv hno
        have U := Lib.hid u
        have L := Lib.hid l
        have T := Lib.hid t
        have F := Lib.hid f
        have CV := Lib.hid (valid_yes r w1 hv)
        clear u l t f hno hv
        go_wp2_with fail
        refine CV.out.mono ?_
        rintro e w' ⟨rfl, rfl⟩
        go_wp2_with fail
        refine (mapUp _ _ HT1.out.case).mono ?_
        rintro e w2 ⟨rfl, -, hb⟩
        have HT2 := Lib.hid (foldTabs_below HT1.out hb)
        have HB2 := Lib.hid (bel_trans3 HB1.out hb)
        clear hb
        rw [U.out]
        go_wp2_with fail
        refine (mapLow _ _ HT2.out.case).mono ?_
        rintro e w3 ⟨rfl, -, hb⟩
        have HT3 := Lib.hid (foldTabs_below HT2.out hb)
        have HB3 := Lib.hid (bel_trans3 HB2.out hb)
        clear hb
        rw [L.out]
        go_wp2_with fail
        refine (mapTit _ _ HT3.out.case).mono ?_
        rintro e w4 ⟨rfl, -, hb⟩
        have HT4 := Lib.hid (foldTabs_below HT3.out hb)
        have HB4 := Lib.hid (bel_trans3 HB3.out hb)
        clear hb
        rw [T.out]
        go_wp2_with fail
        refine (mapFold _ _ HT4.out).mono ?_
        rintro e w5 ⟨rfl, hT, hb⟩
        have HT5 := Lib.hid hT
        have HB5 := Lib.hid (bel_trans3 HB4.out hb)
        clear hT hb
        rw [F.out]
        go_wp2
        go_ret
        exact ⟨by simp, HB5.out⟩
      · have CV := Lib.hid (valid_no r w1 hv)
        clear hno hv
        go_wp2_with fail
        refine CV.out.mono ?_
        rintro e w' ⟨rfl, rfl⟩
        go_wp2
        go_ret
        exact ⟨rfl, HB1.out⟩
  · go_enter Tryd.func14, Tryd.ntmps14
    go_wp2
    go_ret
    exact ⟨rfl, Below.refl _ _⟩
end Go.Proofs.YtfdbcjdkikmjiaaDoor.fnNothingMap
namespace Go.Proofs.YtfdbcjdkikmjiaaDoor
theorem fnNothingMap_walk {v : Value} {n : Nat} {w : World} (hC : CodeIs w.heap.size v n w) (hL : laidMet Tryd.prog Rows.fnNothingMapRow.laid w) :
    Calls Tryd.prog 14 #[v] w fun e w' => e = .returned (.bool true) ∧ RowKit.Below w.heap.size w w' := fnNothingMap.walk hC hL
end Go.Proofs.YtfdbcjdkikmjiaaDoor
