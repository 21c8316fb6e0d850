/-
  WALK of the law FnFoldApart, and its plain law: two numbers are folded to one only if they are one.
-/
import Derived.Test.YtfdbcjdkikmjiaaDoorRows
import Derived.Test.YtfdbcjdkikmjiaaDoorFold
import Derived.Test.YtfdbcjdkikmjiaaDoorDraw
import Derived.LoopTactic
namespace Go.Proofs.YtfdbcjdkikmjiaaDoor.fnFoldApart
open Go.RowKit Go.Lib
set_option linter.unusedVariables false

set_option maxHeartbeats 1000000 in
set_option maxRecDepth 100000 in
theorem walk {v : Value} {n : Nat} {w : World} (hC : CodeIs w.heap.size v n w) (hL : laidMet Tryd.prog Rows.fnFoldApartRow.laid w) :
    Calls Tryd.prog 5 #[v] w fun e w' => e = .returned (.bool true) ∧ Below w.heap.size w w' := by
  have HT := Lib.hid (foldTabs_of_laid hL (.head _) (.tail _ (.head _)) (.tail _ (.tail _ (.head _))))
  have HC := Lib.hid hC
  obtain ⟨a, cap, rfl⟩ := hC.1
  clear hL hC
  by_cases hn : n ≤ 1048576
  · go_enter Tryd.func5, Tryd.ntmps5
    go_wp2_with fail
    refine (draw_any HC.out hn).mono ?_
    rintro e w1 ⟨r, h0, h1, rfl, hb⟩
    have HT1 := Lib.hid (foldTabs_below HT.out hb)
    have HB1 := Lib.hid hb
    clear hb
    obtain ⟨p, hp1, hp4, hpr, hpm⟩ := Plain.period r
    have HPR := Lib.hid hpr
    have HPA := Lib.hid (Plain.apart hp1 hpr hpm)
    clear hpr hpm
    go_wp2_with fail
    refine (mapFold _ _ HT1.out).mono ?_
    rintro e w2 ⟨rfl, hT, hb⟩
    have HT2 := Lib.hid hT
    have HB2 := Lib.hid (bel_trans3 HB1.out hb)
    clear hT hb
    have HI : Hid (Plain.foldI r = Plain.it r 1) := Lib.hid rfl
    rw [HI.out]
    go_wp2
    go_loopw [4, 5, 6] (fun x s y wr => ∃ k : Nat, k + 1 ≤ p ∧ s = .int .i64 k ∧ x = .int .i32 (Plain.it r (k + 1)) ∧ FoldTabs wr ∧ Below w.heap.size w wr) (fun _ s _ _ => 5 - (RowKit.intOf s).toNat)
    case atStart => exact ⟨0, by omega, rfl, rfl, HT2.out, HB2.out⟩
    case round =>
      obtain ⟨k, hk, rfl, rfl, hT, hB⟩ := hrel
      have HT3 := Lib.hid hT
      have HB3 := Lib.hid hB
      clear hT hB
      have hk4 : k ≤ 3 := by omega
      by_cases hkp : k + 1 = p
      · have e : Plain.it r (k + 1) = r := by rw [hkp]; exact HPR.out
        rw [e]
        clear e hkp
        go_wp2_with fail
        refine (mapFold _ _ HT3.out).mono ?_
        rintro e w4 ⟨rfl, hT, hb⟩
        have HT4 := Lib.hid hT
        have HB4 := Lib.hid (bel_trans3 HB3.out hb)
        clear hT hb
        rw [HI.out]
        go_wp2_with fail
        refine (mapFold _ _ HT4.out).mono ?_
        rintro e w5 ⟨rfl, hT, hb⟩
        have HT5 := Lib.hid hT
        have HB5 := Lib.hid (bel_trans3 HB4.out hb)
        clear hT hb
        rw [HI.out]
        have hb : (Plain.it r 1 == Plain.it r 1) = true := by simp
        go_wp2
        go_ret
        exact ⟨by simp, HB5.out⟩
      · have hne : Plain.it r (k + 2) ≠ Plain.it r 1 := HPA.out k (by omega)
        have hb : (Plain.it r (k + 2) == Plain.it r 1) = false := by simp [hne]
        have HN : Hid (Plain.foldI (Plain.it r (k + 1)) = Plain.it r (k + 2)) := Lib.hid rfl
        clear hne
        generalize Plain.it r (k + 1) = x at HN
        generalize hy : Plain.it r (k + 2) = y at hb HN
        have HY := Lib.hid hy
        clear hy
        go_wp2_with fail
        refine (mapFold _ _ HT3.out).mono ?_
        rintro e w4 ⟨rfl, hT, hb⟩
        have HT4 := Lib.hid hT
        have HB4 := Lib.hid (bel_trans3 HB3.out hb)
        clear hT hb
        rw [HN.out]
        go_wp2_with fail
        refine (mapFold _ _ HT4.out).mono ?_
        rintro e w5 ⟨rfl, hT, hb⟩
        have HT5 := Lib.hid hT
        have HB5 := Lib.hid (bel_trans3 HB4.out hb)
        clear hT hb
        rw [HI.out]
        go_wp2
        go_roundw
        case rel => exact ⟨k + 1, by omega, by go_num, by rw [show Plain.it r (k + 1 + 1) = y from HY.out], HT5.out, HB5.out⟩
        case measure => simp [RowKit.intOf]; omega
  · go_enter Tryd.func5, Tryd.ntmps5
    go_wp2
    go_ret
    exact ⟨rfl, Below.refl _ _⟩
end Go.Proofs.YtfdbcjdkikmjiaaDoor.fnFoldApart
namespace Go.Proofs.YtfdbcjdkikmjiaaDoor
theorem fnFoldApart_walk {v : Value} {n : Nat} {w : World} (hC : CodeIs w.heap.size v n w) (hL : laidMet Tryd.prog Rows.fnFoldApartRow.laid w) :
    Calls Tryd.prog 5 #[v] w fun e w' => e = .returned (.bool true) ∧ RowKit.Below w.heap.size w w' := fnFoldApart.walk hC hL
end Go.Proofs.YtfdbcjdkikmjiaaDoor
