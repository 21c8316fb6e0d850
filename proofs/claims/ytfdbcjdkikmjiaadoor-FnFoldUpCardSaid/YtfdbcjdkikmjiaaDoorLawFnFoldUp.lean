/-
  WALK of the law FnFoldUp, and its plain law: where a number is folded to a lesser one, that one leads to it by rising.
-/
import Derived.Test.YtfdbcjdkikmjiaaDoorRows
import Derived.Test.YtfdbcjdkikmjiaaDoorFold
import Derived.Test.YtfdbcjdkikmjiaaDoorDraw
import Derived.LoopTactic
namespace Go.Proofs.YtfdbcjdkikmjiaaDoor.fnFoldUp
open Go.RowKit Go.Lib
set_option linter.unusedVariables false

def okAt (r : Nat) : Bool :=
  Nat.ble r (Plain.itN r 1) || ((Nat.blt (Plain.itN r 1) (Plain.itN r 2) && Nat.ble (Plain.itN r 2) r) &&
    (Nat.beq (Plain.itN r 2) r || ((Nat.blt (Plain.itN r 2) (Plain.itN r 3) && Nat.ble (Plain.itN r 3) r) &&
      (Nat.beq (Plain.itN r 3) r || (Nat.blt (Plain.itN r 3) (Plain.itN r 4) && Nat.ble (Plain.itN r 4) r)))))
theorem at_special : Plain.specAll okAt = true := by kernel_rfl
/-- The steps of the rise. -/
def Rises (r : Int) : Prop := r ≤ Plain.it r 1 ∨ ((Plain.it r 1 < Plain.it r 2 ∧ Plain.it r 2 ≤ r) ∧ (Plain.it r 2 = r ∨ ((Plain.it r 2 < Plain.it r 3 ∧ Plain.it r 3 ≤ r) ∧ (Plain.it r 3 = r ∨ (Plain.it r 3 < Plain.it r 4 ∧ Plain.it r 4 ≤ r)))))
theorem rises (r : Int) : Rises r := by
  refine Plain.it_law at_special (P := Rises) (fun k hk h => ?_) (fun k hk h => .inl ?_) (fun r h => .inl (by rw [Plain.it_far h 1]; exact Int.le_refl _)) r
  · simp only [okAt, Bool.or_eq_true, Bool.and_eq_true, Nat.beq_eq, Nat.blt_eq, Nat.ble_eq] at h
    unfold Rises
    rw [(Plain.it_nat hk 1).1, (Plain.it_nat hk 2).1, (Plain.it_nat hk 3).1, (Plain.it_nat hk 4).1]
    omega
  · rw [(Plain.it_nat hk 1).1, Plain.itN_own h]
    exact Int.le_refl _
theorem rise {r : Int} {p : Nat} (hp4 : p ≤ 4) (hm : ∀ j, 1 ≤ j → j < p → Plain.it r j ≠ r) (hlt : Plain.it r 1 < r) (j : Nat) (h1 : 1 ≤ j) (hj : j < p) : Plain.it r j < Plain.it r (j + 1) ∧ Plain.it r (j + 1) ≤ r := by
  have h := rises r
  unfold Rises at h
  have m2 : 2 < p → Plain.it r 2 ≠ r := fun h => hm 2 (by omega) h
  have m3 : 3 < p → Plain.it r 3 ≠ r := fun h => hm 3 (by omega) h
  rcases (by omega : j = 1 ∨ j = 2 ∨ j = 3) with rfl | rfl | rfl
  · show Plain.it r 1 < Plain.it r 2 ∧ Plain.it r 2 ≤ r
    omega
  · have := m2 hj
    show Plain.it r 2 < Plain.it r 3 ∧ Plain.it r 3 ≤ r
    omega
  · have := m2 (by omega)
    have := m3 hj
    show Plain.it r 3 < Plain.it r 4 ∧ Plain.it r 4 ≤ r
    omega

set_option maxHeartbeats 1000000 in
set_option maxRecDepth 100000 in
theorem walk {v : Value} {n : Nat} {w : World} (hC : CodeIs w.heap.size v n w) (hL : laidMet Tryd.prog Rows.fnFoldUpRow.laid w) :
    Calls Tryd.prog 9 #[v] w fun e w' => e = .returned (.bool true) ∧ Below w.heap.size w w' := by
  have HT := Lib.hid (foldTabs_of_laid hL (.head _) (.tail _ (.head _)) (.tail _ (.tail _ (.head _))))
  have HC := Lib.hid hC
  obtain ⟨a, cap, rfl⟩ := hC.1
  clear hL hC
  by_cases hn : n ≤ 1048576
  · go_enter Tryd.func9, Tryd.ntmps9
    go_wp2_with fail
    refine (draw_any HC.out hn).mono ?_
    rintro e w1 ⟨r, h0, h1, rfl, hb⟩
    have HT1 := Lib.hid (foldTabs_below HT.out hb)
    have HB1 := Lib.hid hb
    clear hb
    obtain ⟨p, hp1, hp4, hpr, hpm⟩ := Plain.period r
    have HPR := Lib.hid hpr
    have HPM := Lib.hid hpm
    have HRI := Lib.hid (fun hlt => rise (r := r) hp4 hpm hlt)
    clear hpr hpm
    go_wp2_with fail
    refine (mapFold _ _ HT1.out).mono ?_
    rintro e w2 ⟨rfl, hT, hb⟩
    have HT2 := Lib.hid hT
    have HB2 := Lib.hid (bel_trans3 HB1.out hb)
    clear hT hb
    have HI : Hid (Plain.foldI r = Plain.it r 1) := Lib.hid rfl
    rw [HI.out]
    by_cases hge : r ≤ Plain.it r 1
    · go_wp2
      go_ret
      exact ⟨rfl, HB2.out⟩
    · have hlt : Plain.it r 1 < r := by omega
      clear hge
      have HR := Lib.hid (HRI.out hlt)
      clear HRI
      go_wp2
      go_loopw [4, 5, 6] (fun x s y wr => ∃ k : Nat, k + 1 ≤ p ∧ s = .int .i64 k ∧ x = .int .i32 (Plain.it r (k + 1)) ∧ FoldTabs wr ∧ Below w.heap.size w wr) (fun _ s _ _ => 5 - (RowKit.intOf s).toNat)
      case atStart => exact ⟨0, by omega, rfl, rfl, HT2.out, HB2.out⟩
      case round =>
        obtain ⟨k, hk, rfl, rfl, hT, hB⟩ := hrel
        have HT3 := Lib.hid hT
        have HB3 := Lib.hid hB
        clear hT hB hlt
        have hk4 : k ≤ 3 := by omega
        by_cases hkp : k + 1 = p
        · have e : Plain.it r (k + 1) = r := by rw [hkp]; exact HPR.out
          rw [e]
          clear e hkp
          have hb : (r != r) = false := by simp
          go_wp2
          go_ret
          exact ⟨rfl, HB3.out⟩
        · have hne : Plain.it r (k + 1) ≠ r := HPM.out (k + 1) (by omega) (by omega)
          have hb : (Plain.it r (k + 1) != r) = true := by simp [hne]
          obtain ⟨hr1, hr2⟩ := HR.out (k + 1) (by omega) (by omega)
          have HN : Hid (Plain.foldI (Plain.it r (k + 1)) = Plain.it r (k + 1 + 1)) := Lib.hid rfl
          have HX : Hid (Plain.it r (k + 1 + 1) = Plain.it r (k + 1 + 1)) := Lib.hid rfl
          clear hne
          generalize Plain.it r (k + 1) = x at hb HN hr1
          generalize hy : Plain.it r (k + 1 + 1) = y at HN hr1 hr2
          have HY := Lib.hid hy
          clear hy HX
          have d1 : decide (y ≤ x) = false := decide_eq_false (by omega)
          have d2 : decide (r < y) = false := decide_eq_false (by omega)
          go_wp2_with fail
          refine (mapFold _ _ HT3.out).mono ?_
          rintro e w4 ⟨rfl, hT, hb⟩
          have HT4 := Lib.hid hT
          have HB4 := Lib.hid (bel_trans3 HB3.out hb)
          clear hT hb
          rw [HN.out]
          go_wp2
          go_roundw
          case rel => exact ⟨k + 1, by omega, by go_num, by rw [HY.out], HT4.out, HB4.out⟩
          case measure => simp [RowKit.intOf]; omega
  · go_enter Tryd.func9, Tryd.ntmps9
    go_wp2
    go_ret
    exact ⟨rfl, Below.refl _ _⟩
end Go.Proofs.YtfdbcjdkikmjiaaDoor.fnFoldUp
namespace Go.Proofs.YtfdbcjdkikmjiaaDoor
theorem fnFoldUp_walk {v : Value} {n : Nat} {w : World} (hC : CodeIs w.heap.size v n w) (hL : laidMet Tryd.prog Rows.fnFoldUpRow.laid w) :
    Calls Tryd.prog 9 #[v] w fun e w' => e = .returned (.bool true) ∧ RowKit.Below w.heap.size w w' := fnFoldUp.walk hC hL
end Go.Proofs.YtfdbcjdkikmjiaaDoor
