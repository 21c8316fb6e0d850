/-
  WALK of the law FnFoldASCII, and its plain law: a number behind ASCII is folded into ASCII only if it is one of two.
-/
import Derived.Test.YtfdbcjdkikmjiaaDoorRows
import Derived.Test.YtfdbcjdkikmjiaaDoorFold
import Derived.Test.YtfdbcjdkikmjiaaDoorDraw
import Derived.LoopTactic
namespace Go.Proofs.YtfdbcjdkikmjiaaDoor.fnFoldASCII
open Go.RowKit Go.Lib
set_option linter.unusedVariables false

/-- One of the first k foldings of r lies in ASCII. -/
def met (r : Int) : Nat → Bool
  | 0 => false
  | k + 1 => met r k || decide (Plain.it r k ≤ 127)
def okAt (r : Nat) : Bool :=
  Nat.ble r 127 || ((Nat.beq r 383 || Nat.beq r 8490) && (Nat.ble (Plain.itN r 1) 127 || (Nat.ble (Plain.itN r 2) 127 || Nat.ble (Plain.itN r 3) 127)) ||
    (!(Nat.beq r 383 || Nat.beq r 8490)) && (Nat.blt 127 (Plain.itN r 1) && (Nat.blt 127 (Plain.itN r 2) && Nat.blt 127 (Plain.itN r 3))))
theorem at_special : Plain.specAll okAt = true := by kernel_rfl
def Two (r : Int) : Prop := r ≤ 127 ∨ ((r = 383 ∨ r = 8490) ∧ (Plain.it r 1 ≤ 127 ∨ Plain.it r 2 ≤ 127 ∨ Plain.it r 3 ≤ 127)) ∨ (¬ (r = 383 ∨ r = 8490) ∧ 127 < Plain.it r 1 ∧ 127 < Plain.it r 2 ∧ 127 < Plain.it r 3)
theorem no383 : ¬ Plain.Own 383 := fun h => by
  have h2 := h.2.1
  have e : (Plain.findC Plain.rlo Plain.rhi 383 Plain.caseC).isSome = true := by kernel_rfl
  rw [h2] at e; cases e
theorem no8490 : ¬ Plain.Own 8490 := fun h => by
  have h2 := h.2.1
  have e : (Plain.findC Plain.rlo Plain.rhi 8490 Plain.caseC).isSome = true := by kernel_rfl
  rw [h2] at e; cases e
theorem two (r : Int) : Two r := by
  refine Plain.it_law at_special (P := Two) (fun k hk h => ?_) (fun k hk h => ?_) (fun r h => ?_) r
  · simp only [okAt, Bool.or_eq_true, Bool.and_eq_true, Bool.not_eq_true', Bool.or_eq_false_iff, Nat.beq_eq, Nat.blt_eq, Nat.ble_eq] at h
    have e1 : Nat.beq k 383 = false ↔ k ≠ 383 := by rw [← Bool.not_eq_true, Nat.beq_eq]
    have e2 : Nat.beq k 8490 = false ↔ k ≠ 8490 := by rw [← Bool.not_eq_true, Nat.beq_eq]
    rw [e1, e2] at h
    unfold Two
    rw [(Plain.it_nat hk 1).1, (Plain.it_nat hk 2).1, (Plain.it_nat hk 3).1]
    omega
  · unfold Two
    rw [(Plain.it_nat hk 1).1, (Plain.it_nat hk 2).1, (Plain.it_nat hk 3).1, Plain.itN_own h, Plain.itN_own h, Plain.itN_own h]
    have h1 := h.1
    have n1 : k ≠ 383 := fun e => no383 (e ▸ h)
    have n2 : k ≠ 8490 := fun e => no8490 (e ▸ h)
    omega
  · unfold Two
    rw [Plain.it_far h, Plain.it_far h, Plain.it_far h]
    omega
theorem met_eq (r : Int) (h : 127 < r) : met r 4 = (r == 383 || r == 8490) := by
  have := two r
  unfold Two at this
  show ((((false || decide (Plain.it r 0 ≤ 127)) || decide (Plain.it r 1 ≤ 127)) || decide (Plain.it r 2 ≤ 127)) || decide (Plain.it r 3 ≤ 127)) = _
  rw [show Plain.it r 0 = r from rfl, Bool.eq_iff_iff]
  simp only [Bool.or_eq_true, decide_eq_true_eq, beq_iff_eq, Bool.false_eq_true, false_or]
  omega

set_option maxHeartbeats 1000000 in
set_option maxRecDepth 100000 in
theorem walk {v : Value} {n : Nat} {w : World} (hC : CodeIs w.heap.size v n w) (hL : laidMet Tryd.prog Rows.fnFoldASCIIRow.laid w) :
    Calls Tryd.prog 4 #[v] w fun e w' => e = .returned (.bool true) ∧ Below w.heap.size w w' := by
  have HT := Lib.hid (foldTabs_of_laid hL (.head _) (.tail _ (.head _)) (.tail _ (.tail _ (.head _))))
  have HC := Lib.hid hC
  obtain ⟨a, cap, rfl⟩ := hC.1
  clear hL hC
  by_cases hn : n ≤ 1048576
  · go_enter Tryd.func4, Tryd.ntmps4
    go_wp2_with fail
    refine (draw_any HC.out hn).mono ?_
    rintro e w1 ⟨r, h0, h1, rfl, hb⟩
    have HT1 := Lib.hid (foldTabs_below HT.out hb)
    have HB1 := Lib.hid hb
    clear hb
    by_cases hr : r ≤ 127
    · go_wp2
      go_ret
      exact ⟨rfl, HB1.out⟩
    · have HM := Lib.hid (met_eq r (by omega))
      have hr' : 127 < r := by omega
      clear hr
      go_wp2
      go_loopw [4, 5, 6] (fun x m s wr => ∃ k : Nat, k ≤ 4 ∧ s = .int .i64 k ∧ x = .int .i32 (Plain.it r k) ∧ m = .bool (met r k) ∧ FoldTabs wr ∧ Below w.heap.size w wr) (fun _ _ s _ => 5 - (RowKit.intOf s).toNat)
      case atStart => exact ⟨0, by omega, rfl, rfl, rfl, HT1.out, HB1.out⟩
      case round =>
        obtain ⟨k, hk, rfl, rfl, rfl, hT, hB⟩ := hrel
        have HT2 := Lib.hid hT
        have HB2 := Lib.hid hB
        clear hT hB
        by_cases hk4 : k < 4
        · have HN : Hid (Plain.foldI (Plain.it r k) = Plain.it r (k + 1)) := Lib.hid rfl
          have HS : Hid (met r (k + 1) = (met r k || decide (Plain.it r k ≤ 127))) := Lib.hid rfl
          cases hm : met r k with
          | true =>
            rw [hm] at HS
            have HS' := Lib.hid (show met r (k + 1) = true from by rw [HS.out]; rfl)
            clear hm HS
            generalize Plain.it r k = x at HN
            go_wp2_with fail
            refine (mapFold _ _ HT2.out).mono ?_
            rintro e w3 ⟨rfl, hT, hb⟩
            have HT3 := Lib.hid hT
            have HB3 := Lib.hid (bel_trans3 HB2.out hb)
            clear hT hb
            rw [HN.out]
            go_wp2
            go_roundw
            case rel => exact ⟨k + 1, by omega, by go_num, rfl, by rw [HS'.out], HT3.out, HB3.out⟩
            case measure => simp [RowKit.intOf]; omega
          | false =>
            rw [hm] at HS
            clear hm
            generalize Plain.it r k = x at HN HS
            by_cases hx : x ≤ 127
            · have HS' := Lib.hid (show met r (k + 1) = true from by rw [HS.out, decide_eq_true hx]; rfl)
              have hd : decide (x ≤ 127) = true := decide_eq_true hx
              clear HS
              go_wp2_with fail
              refine (mapFold _ _ HT2.out).mono ?_
              rintro e w3 ⟨rfl, hT, hb⟩
              have HT3 := Lib.hid hT
              have HB3 := Lib.hid (bel_trans3 HB2.out hb)
              clear hT hb
              rw [HN.out]
              go_wp2
              go_roundw
              case rel => exact ⟨k + 1, by omega, by go_num, rfl, by rw [HS'.out], HT3.out, HB3.out⟩
              case measure => simp [RowKit.intOf]; omega
            · have HS' := Lib.hid (show met r (k + 1) = false from by rw [HS.out, decide_eq_false hx]; rfl)
              have hd : decide (x ≤ 127) = false := decide_eq_false hx
              clear HS
              go_wp2_with fail
              refine (mapFold _ _ HT2.out).mono ?_
              rintro e w3 ⟨rfl, hT, hb⟩
              have HT3 := Lib.hid hT
              have HB3 := Lib.hid (bel_trans3 HB2.out hb)
              clear hT hb
              rw [HN.out]
              go_wp2
              go_roundw
              case rel => exact ⟨k + 1, by omega, by go_num, rfl, by rw [HS'.out], HT3.out, HB3.out⟩
              case measure => simp [RowKit.intOf]; omega
        · obtain rfl : k = 4 := by omega
          rw [HM.out]
          generalize Plain.it r 4 = x4
          clear hk4 HM
          rcases (by omega : r = 383 ∨ r = 8490 ∨ (r ≠ 383 ∧ r ≠ 8490)) with h | h | ⟨a1, a2⟩
          · subst h
            go_wp2
            go_ret
            exact ⟨rfl, HB2.out⟩
          · subst h
            go_wp2
            go_ret
            exact ⟨rfl, HB2.out⟩
          · have b1 : (r == 383) = false := by simp [a1]
            have b2 : (r == 8490) = false := by simp [a2]
            clear a1 a2
            go_wp2
            go_ret
            exact ⟨rfl, HB2.out⟩
  · go_enter Tryd.func4, Tryd.ntmps4
    go_wp2
    go_ret
    exact ⟨rfl, Below.refl _ _⟩
end Go.Proofs.YtfdbcjdkikmjiaaDoor.fnFoldASCII
namespace Go.Proofs.YtfdbcjdkikmjiaaDoor
theorem fnFoldASCII_walk {v : Value} {n : Nat} {w : World} (hC : CodeIs w.heap.size v n w) (hL : laidMet Tryd.prog Rows.fnFoldASCIIRow.laid w) :
    Calls Tryd.prog 4 #[v] w fun e w' => e = .returned (.bool true) ∧ RowKit.Below w.heap.size w w' := fnFoldASCII.walk hC hL
end Go.Proofs.YtfdbcjdkikmjiaaDoor
