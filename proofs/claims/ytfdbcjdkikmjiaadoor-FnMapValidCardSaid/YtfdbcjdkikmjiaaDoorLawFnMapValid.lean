/-
  WALK of the law FnMapValid, and its plain law: what is mapped is a code point, and a character, exactly if the number is.
-/
import Derived.Test.YtfdbcjdkikmjiaaDoorRows
import Derived.Test.YtfdbcjdkikmjiaaDoorFold
import Derived.Test.YtfdbcjdkikmjiaaDoorCase
import Derived.Test.YtfdbcjdkikmjiaaDoorPlainNothing
import Derived.Test.YtfdbcjdkikmjiaaDoorDraw
import Derived.LoopTactic
namespace Go.Proofs.YtfdbcjdkikmjiaaDoor.fnMapValid
open Go.RowKit Go.Lib
set_option linter.unusedVariables false

set_option maxHeartbeats 4000000 in
set_option maxRecDepth 100000 in
theorem walk {v : Value} {n : Nat} {w : World} (hC : CodeIs w.heap.size v n w) (hL : laidMet Tryd.prog Rows.fnMapValidRow.laid w) :
    Calls Tryd.prog 13 #[v] w fun e w' => e = .returned (.bool true) ∧ Below w.heap.size w w' := by
  have HT := Lib.hid (foldTabs_of_laid hL (.head _) (.tail _ (.head _)) (.tail _ (.tail _ (.head _))))
  have HC := Lib.hid hC
  obtain ⟨a, cap, rfl⟩ := hC.1
  clear hL hC
  by_cases hn : n ≤ 1048576
  · go_enter Tryd.func13, Tryd.ntmps13
    go_wp2_with fail
    refine (draw_any HC.out hn).mono ?_
    rintro e w1 ⟨r, h0, h1, rfl, hb⟩
    have HT1 := Lib.hid (foldTabs_below HT.out hb)
    have HB1 := Lib.hid hb
    clear hb
    go_wp2_with fail
    refine (mapUp _ _ HT1.out.case).mono ?_
    rintro e w2 ⟨rfl, -, hb⟩
    have HT2 := Lib.hid (foldTabs_below HT1.out hb)
    have HB2 := Lib.hid (bel_trans3 HB1.out hb)
    clear hb
    go_wp2_with fail
    refine (mapLow _ _ HT2.out.case).mono ?_
    rintro e w3 ⟨rfl, -, hb⟩
    have HT3 := Lib.hid (foldTabs_below HT2.out hb)
    have HB3 := Lib.hid (bel_trans3 HB2.out hb)
    clear hb
    go_wp2_with fail
    refine (mapTit _ _ HT3.out.case).mono ?_
    rintro e w4 ⟨rfl, -, hb⟩
    have HT4 := Lib.hid (foldTabs_below HT3.out hb)
    have HB4 := Lib.hid (bel_trans3 HB3.out hb)
    clear hb
    go_wp2_with fail
    refine (mapFold _ _ HT4.out).mono ?_
    rintro e w5 ⟨rfl, hT, hb⟩
    have HT5 := Lib.hid hT
    have HB5 := Lib.hid (bel_trans3 HB4.out hb)
    clear hT hb
    go_wp2
    have HA := Lib.hid (map_alike r)
    generalize toUpperU r = U at HA
    generalize toLowerU r = W at HA
    generalize toTitleU r = Z at HA
    generalize Plain.foldI r = Y at HA
    obtain ⟨g1, g2, g3, g4⟩ := HA.out
    have G0 := Lib.hid g1
    have G1 := Lib.hid g2
    have G2 := Lib.hid g3
    have G3 := Lib.hid g4
    clear g1 g2 g3 g4 HA
    have HBF := Lib.hid (HB5.out.alloc HB5.out.size (.cells #[.int .i32 U, .int .i32 W, .int .i32 Z, .int .i32 Y] 27))
    have hvv : (validB r != validB r) = false := by simp
    have hnn : (nothB r != nothB r) = false := by simp
    go_loop [5] (fun s => ∃ k : Nat, k ≤ 4 ∧ s = .int .i64 k) (fun s => 5 - (RowKit.intOf s).toNat)
    case atStart => exact ⟨0, by omega, rfl⟩
    case round =>
      obtain ⟨k, hk, rfl⟩ := hrel
      rcases (by omega : k = 0 ∨ k = 1 ∨ k = 2 ∨ k = 3 ∨ k = 4) with h | h | h | h | h
      · subst h
        go_wp2_with fail
        refine (valid_any _ _).mono ?_
        rintro e w' ⟨rfl, rfl⟩
        rw [G0.out.1]
        go_wp2_with fail
        refine (valid_any _ _).mono ?_
        rintro e w' ⟨rfl, rfl⟩
        go_wp2_with fail
        refine (nothing_any _ _).mono ?_
        rintro e w' ⟨rfl, rfl⟩
        rw [G0.out.2]
        go_wp2_with fail
        refine (nothing_any _ _).mono ?_
        rintro e w' ⟨rfl, rfl⟩
        go_wp2
        go_round
        case rel => exact ⟨1, by omega, rfl⟩
        case measure => simp [RowKit.intOf]
      · subst h
        go_wp2_with fail
        refine (valid_any _ _).mono ?_
        rintro e w' ⟨rfl, rfl⟩
        rw [G1.out.1]
        go_wp2_with fail
        refine (valid_any _ _).mono ?_
        rintro e w' ⟨rfl, rfl⟩
        go_wp2_with fail
        refine (nothing_any _ _).mono ?_
        rintro e w' ⟨rfl, rfl⟩
        rw [G1.out.2]
        go_wp2_with fail
        refine (nothing_any _ _).mono ?_
        rintro e w' ⟨rfl, rfl⟩
        go_wp2
        go_round
        case rel => exact ⟨2, by omega, rfl⟩
        case measure => simp [RowKit.intOf]
      · subst h
        go_wp2_with fail
        refine (valid_any _ _).mono ?_
        rintro e w' ⟨rfl, rfl⟩
        rw [G2.out.1]
        go_wp2_with fail
        refine (valid_any _ _).mono ?_
        rintro e w' ⟨rfl, rfl⟩
        go_wp2_with fail
        refine (nothing_any _ _).mono ?_
        rintro e w' ⟨rfl, rfl⟩
        rw [G2.out.2]
        go_wp2_with fail
        refine (nothing_any _ _).mono ?_
        rintro e w' ⟨rfl, rfl⟩
        go_wp2
        go_round
        case rel => exact ⟨3, by omega, rfl⟩
        case measure => simp [RowKit.intOf]
      · subst h
        go_wp2_with fail
        refine (valid_any _ _).mono ?_
        rintro e w' ⟨rfl, rfl⟩
        rw [G3.out.1]
        go_wp2_with fail
        refine (valid_any _ _).mono ?_
        rintro e w' ⟨rfl, rfl⟩
        go_wp2_with fail
        refine (nothing_any _ _).mono ?_
        rintro e w' ⟨rfl, rfl⟩
        rw [G3.out.2]
        go_wp2_with fail
        refine (nothing_any _ _).mono ?_
        rintro e w' ⟨rfl, rfl⟩
        go_wp2
        go_round
        case rel => exact ⟨4, by omega, rfl⟩
        case measure => simp [RowKit.intOf]
      · subst h
        go_wp2
        go_ret
        exact ⟨rfl, HBF.out⟩
  · go_enter Tryd.func13, Tryd.ntmps13
    go_wp2
    go_ret
    exact ⟨rfl, Below.refl _ _⟩
end Go.Proofs.YtfdbcjdkikmjiaaDoor.fnMapValid
namespace Go.Proofs.YtfdbcjdkikmjiaaDoor
theorem fnMapValid_walk {v : Value} {n : Nat} {w : World} (hC : CodeIs w.heap.size v n w) (hL : laidMet Tryd.prog Rows.fnMapValidRow.laid w) :
    Calls Tryd.prog 13 #[v] w fun e w' => e = .returned (.bool true) ∧ RowKit.Below w.heap.size w w' := fnMapValid.walk hC hL
end Go.Proofs.YtfdbcjdkikmjiaaDoor
