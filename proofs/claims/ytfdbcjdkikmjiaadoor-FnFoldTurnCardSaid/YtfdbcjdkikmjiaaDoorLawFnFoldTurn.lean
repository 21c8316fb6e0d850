/-
  WALK of the law FnFoldTurn, and its plain law: folded again and again, four times at most, a number comes back.
-/
import Derived.Test.YtfdbcjdkikmjiaaDoorRows
import Derived.Test.YtfdbcjdkikmjiaaDoorFold
import Derived.Test.YtfdbcjdkikmjiaaDoorDraw
import Derived.LoopTactic
namespace Go.Proofs.YtfdbcjdkikmjiaaDoor.fnFoldTurn
open Go.RowKit Go.Lib
set_option linter.unusedVariables false

set_option maxHeartbeats 1000000 in
set_option maxRecDepth 100000 in
theorem walk {v : Value} {n : Nat} {w : World} (hC : CodeIs w.heap.size v n w) (hL : laidMet Tryd.prog Rows.fnFoldTurnRow.laid w) :
    Calls Tryd.prog 8 #[v] w fun e w' => e = .returned (.bool true) ∧ Below w.heap.size w w' := by
  have HT := Lib.hid (foldTabs_of_laid hL (.head _) (.tail _ (.head _)) (.tail _ (.tail _ (.head _))))
  have HC := Lib.hid hC
  obtain ⟨a, cap, rfl⟩ := hC.1
  clear hL hC
  by_cases hn : n ≤ 1048576
  · go_enter Tryd.func8, Tryd.ntmps8
    go_wp2_with fail
    refine (draw_any HC.out hn).mono ?_
    rintro e w1 ⟨r, h0, h1, rfl, hb⟩
    have HT1 := Lib.hid (foldTabs_below HT.out hb)
    have HB1 := Lib.hid hb
    clear hb
    obtain ⟨p, hp1, hp4, hpr, hpm⟩ := Plain.period r
    have HPR := Lib.hid hpr
    have HPM := Lib.hid hpm
    clear hpr hpm
    go_wp2_with fail
    refine (mapFold _ _ HT1.out).mono ?_
    rintro e w2 ⟨rfl, hT, hb⟩
    have HT2 := Lib.hid hT
    have HB2 := Lib.hid (bel_trans3 HB1.out hb)
    clear hT hb
    have HI : Hid (Plain.foldI r = Plain.it r 1) := Lib.hid rfl
    rw [HI.out]
    go_wp2
    go_loopw [4, 5] (fun x s wr => ∃ k : Nat, k + 1 ≤ p ∧ s = .int .i64 k ∧ x = .int .i32 (Plain.it r (k + 1)) ∧ FoldTabs wr ∧ Below w.heap.size w wr) (fun _ s _ => 5 - (RowKit.intOf s).toNat)
    case atStart => exact ⟨0, by omega, rfl, rfl, HT2.out, HB2.out⟩
    case round =>
      obtain ⟨k, hk, rfl, rfl, hT, hB⟩ := hrel
      have HT3 := Lib.hid hT
      have HB3 := Lib.hid hB
      clear hT hB
      by_cases hkp : k + 1 = p
      · have e : Plain.it r (k + 1) = r := by rw [hkp]; exact HPR.out
        rw [e]
        clear e hkp
        have hb : (r != r) = false := by simp
        have hk4 : k ≤ 3 := by omega
        by_cases hk3 : k < 3
        all_goals
          go_wp2
          go_ret
          exact ⟨by simp, HB3.out⟩
      · have hne : Plain.it r (k + 1) ≠ r := HPM.out (k + 1) (by omega) (by omega)
        have hb : (Plain.it r (k + 1) != r) = true := by simp [hne]
        have hk3 : k < 3 := by omega
        have HN : Hid (Plain.foldI (Plain.it r (k + 1)) = Plain.it r (k + 1 + 1)) := Lib.hid rfl
        clear hne
        generalize Plain.it r (k + 1) = x at hb HN
        go_wp2_with fail
        refine (mapFold _ _ HT3.out).mono ?_
        rintro e w4 ⟨rfl, hT, hb⟩
        have HT4 := Lib.hid hT
        have HB4 := Lib.hid (bel_trans3 HB3.out hb)
        clear hT hb
        rw [HN.out]
        go_wp2
        go_roundw
        case rel => exact ⟨k + 1, by omega, by go_num, rfl, HT4.out, HB4.out⟩
        case measure => simp [RowKit.intOf]; omega
  · go_enter Tryd.func8, Tryd.ntmps8
    go_wp2
    go_ret
    exact ⟨rfl, Below.refl _ _⟩
end Go.Proofs.YtfdbcjdkikmjiaaDoor.fnFoldTurn
namespace Go.Proofs.YtfdbcjdkikmjiaaDoor
theorem fnFoldTurn_walk {v : Value} {n : Nat} {w : World} (hC : CodeIs w.heap.size v n w) (hL : laidMet Tryd.prog Rows.fnFoldTurnRow.laid w) :
    Calls Tryd.prog 8 #[v] w fun e w' => e = .returned (.bool true) ∧ RowKit.Below w.heap.size w w' := fnFoldTurn.walk hC hL
end Go.Proofs.YtfdbcjdkikmjiaaDoor
