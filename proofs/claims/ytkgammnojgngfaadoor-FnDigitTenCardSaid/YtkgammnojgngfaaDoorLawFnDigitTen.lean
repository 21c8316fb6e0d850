/-
  WALK of the law FnDigitTen, and its plain law: decimal digits come ten by ten.
-/
import Derived.Test.YtkgammnojgngfaaDoorRows
import Derived.Test.YtkgammnojgngfaaDoorClass
import Derived.Test.YtkgammnojgngfaaDoorPlainTabClass
import Derived.Test.YtkgammnojgngfaaDoorDraw
import Derived.LoopTactic
namespace Go.Proofs.YtkgammnojgngfaaDoor.fnDigitTen
open Go.RowKit Go.Lib
set_option linter.unusedVariables false

theorem at_digit : Plain.allRg (Plain.hasC Plain.digitC) (Plain.flatC Plain.digitC) = true := by kernel_rfl
theorem tens : ((Plain.flatC Plain.digitC).all fun x => Nat.beq x.2.2 1 && (Nat.beq ((x.2.1 + 1 - x.1) % 10) 0 && (Nat.ble 256 x.1 && Nat.ble x.2.1 1114111))) = true := by kernel_rfl
theorem digit_big {k : Nat} (h1 : 255 < k) (h2 : k ≤ 1114111) : isDigitU (k : Int) = Plain.hasC Plain.digitC k := by
  unfold isDigitU
  rw [if_neg (by omega), Plain.excl_nat Plain.digit_fits k (by omega)]
/-- Where a digit stands among its ten. -/
theorem plain (r : Int) (h0 : -2147483648 ≤ r) (h1 : r ≤ 2147483647) (h : isDigitU r = true) : 48 ≤ r ∧ r ≤ 1114111 ∧ ∃ k : Nat, k < 10 ∧ ∀ n : Nat, n < 10 → isDigitU (r - (k : Int) + (n : Int)) = true := by
  by_cases hs : r ≤ 255
  · have hd : 48 ≤ r ∧ r ≤ 57 := by
      unfold isDigitU at h
      rw [if_pos hs] at h
      simpa [isDigitL] using h
    refine ⟨by omega, by omega, (r - 48).toNat, by omega, fun n hn => ?_⟩
    unfold isDigitU
    rw [if_pos (by omega)]
    simp [isDigitL]
    omega
  · obtain ⟨k, rfl⟩ : ∃ k : Nat, r = k := ⟨r.toNat, by omega⟩
    have hh : Plain.hasC Plain.digitC k = true := by
      unfold isDigitU at h
      rw [if_neg hs, Plain.excl_nat Plain.digit_fits k (by omega)] at h
      exact h
    obtain ⟨x, hm, hl, hu, hx⟩ := Plain.hasC_mem hh
    have ht := List.all_eq_true.1 tens x hm
    simp only [Bool.and_eq_true, Nat.beq_eq, Nat.ble_eq] at ht
    obtain ⟨t1, t2, t3, t4⟩ := ht
    refine ⟨by omega, by omega, (k - x.1) % 10, Nat.mod_lt _ (by omega), fun n hn => ?_⟩
    have e : (k : Int) - (((k - x.1) % 10 : Nat) : Int) + (n : Int) = ((k - (k - x.1) % 10 + n : Nat) : Int) := by omega
    rw [e, digit_big (by omega) (by omega)]
    have := Plain.allRg_of at_digit x hm (k - (k - x.1) % 10 + n) (by omega) (by omega) (by simp [Rg.has, t1])
    exact this
theorem const_eq : isDigitU 48 = true := by kernel_rfl
/-- All of the first n of the ten from r - k on are digits. -/
def allD (r : Int) (k : Nat) : Nat → Bool
  | 0 => true
  | n + 1 => allD r k n && isDigitU (r - (k : Int) + (n : Int))
theorem allD_true {r : Int} {k : Nat} (h : ∀ n : Nat, n < 10 → isDigitU (r - (k : Int) + (n : Int)) = true) : ∀ n, n ≤ 10 → allD r k n = true
  | 0, _ => rfl
  | n + 1, hn => by
    show (allD r k n && isDigitU (r - (k : Int) + (n : Int))) = true
    rw [allD_true h n (by omega), h n (by omega)]
    rfl

set_option maxHeartbeats 4000000 in
set_option maxRecDepth 100000 in
theorem walk {v : Value} {n : Nat} {w : World} (hC : CodeIs w.heap.size v n w) (hL : laidMet Tryd.prog Rows.fnDigitTenRow.laid w) :
    Calls Tryd.prog 3 #[v] w fun e w' => e = .returned (.bool true) ∧ Below w.heap.size w w' := by
  have HV := Lib.hid (digit_of_laid hL (.head _))
  have HC := Lib.hid hC
  obtain ⟨a, cap, rfl⟩ := hC.1
  clear hL hC
  by_cases hn : n ≤ 1048576
  · go_enter Tryd.func3, Tryd.ntmps3
    go_wp2_with fail
    refine (isDigit_any 48 _ (by omega) (by omega) HV.out).mono ?_
    rintro e w1 ⟨rfl, hb⟩
    have HV1 := Lib.hid (RVar_below HV.out hb)
    have HB1 := Lib.hid hb
    have HC1 := Lib.hid ((HC.out.below hb).mono hb.size)
    clear hb
    rw [const_eq]
    go_wp2_with fail
    refine (draw_any HC1.out hn).mono ?_
    rintro e w2 ⟨r, h0, h1, rfl, hb⟩
    have HV2 := Lib.hid (RVar_below HV1.out hb)
    have HB2 := Lib.hid (bel_trans' HB1.out hb)
    clear hb
    have PL := Lib.hid (plain r h0 h1)
    go_wp2_with fail
    refine (isDigit_any r _ h0 h1 HV2.out).mono ?_
    rintro e w3 ⟨rfl, hb⟩
    have HV3 := Lib.hid (RVar_below HV2.out hb)
    have HB3 := Lib.hid (bel_trans' HB2.out hb)
    clear hb
    cases hd : isDigitU r with
    | false =>
      clear hd
      go_wp2
      go_ret
      exact ⟨rfl, HB3.out⟩
    | true =>
      obtain ⟨p1, p2, k0, hk0, hall⟩ := PL.out hd
      have HAll := Lib.hid (allD_true hall 10 (Nat.le_refl _))
      clear hd hall PL h0 h1
      go_wp2
      go_loopw [4, 5, 6] (fun s4 s5 s6 wr => ∃ k : Nat, k ≤ k0 ∧ s4 = .int .i32 k ∧ RVar 0 digitT wr ∧ Below w.heap.size w wr) (fun s4 _ _ _ => 10 - (RowKit.intOf s4).toNat)
      case atStart => exact ⟨0, by omega, rfl, HV3.out, HB3.out⟩
      case round =>
        rename_i s5 s6 wr
        obtain ⟨k, hk, rfl, hT, hB⟩ := hrel
        have HV4 := Lib.hid hT
        have HB4 := Lib.hid hB
        clear hT hB
        obtain ⟨wo, rfl⟩ : ∃ wo : World, wo = wr := ⟨_, rfl⟩
        have hk10 : decide ((k : Int) < 10) = true := decide_eq_true (by omega)
        go_wp2
        go_loopw [5, 6] (fun b s wr => ∃ j : Nat, j ≤ 10 ∧ s = .int .i32 j ∧ b = .bool (allD r k j) ∧ RVar 0 digitT wr ∧ Below w.heap.size w wr) (fun _ s _ => 11 - (RowKit.intOf s).toNat)
        case atStart => exact ⟨0, by omega, rfl, rfl, HV4.out, HB4.out⟩
        case round =>
          obtain ⟨j, hj, rfl, rfl, hT, hB⟩ := hrel
          have HV5 := Lib.hid hT
          have HB5 := Lib.hid hB
          clear hT hB
          by_cases hj10 : j < 10
          · have HS : Hid (allD r k (j + 1) = (allD r k j && isDigitU (r - (k : Int) + (j : Int)))) := Lib.hid rfl
            cases hb : allD r k j with
            | false =>
              rw [hb] at HS
              clear hb
              go_wp2
              go_roundw
              case rel => exact ⟨j + 1, by omega, by go_num, by rw [HS.out]; rfl, HV5.out, HB5.out⟩
              case measure => simp [RowKit.intOf]; omega
            | true =>
              rw [hb] at HS
              clear hb
              go_wp2_with fail
              refine (isDigit_any _ _ (by omega) (by omega) HV5.out).mono ?_
              rintro e w6 ⟨rfl, hb⟩
              have HV6 := Lib.hid (RVar_below HV5.out hb)
              have HB6 := Lib.hid (bel_trans' HB5.out hb)
              clear hb
              go_wp2
              go_roundw
              case rel => exact ⟨j + 1, by omega, by go_num, by rw [HS.out]; rfl, HV6.out, HB6.out⟩
              case measure => simp [RowKit.intOf]; omega
          · obtain rfl : j = 10 := by omega
            cases hb : allD r k 10 with
            | true =>
              clear hb
              go_wp2
              go_ret
              exact ⟨rfl, HB5.out⟩
            | false =>
              have hkk : k < k0 := by
                rcases Nat.lt_or_eq_of_le hk with h | h
                · exact h
                · subst h; rw [HAll.out] at hb; cases hb
              clear hb
              go_wp2
              go_roundw
              case rel => exact ⟨k + 1, by omega, by go_num, HV5.out, HB5.out⟩
              case measure => simp [RowKit.intOf]; omega
  · go_enter Tryd.func3, Tryd.ntmps3
    go_wp2
    go_ret
    exact ⟨rfl, Below.refl _ _⟩
end Go.Proofs.YtkgammnojgngfaaDoor.fnDigitTen
namespace Go.Proofs.YtkgammnojgngfaaDoor
theorem fnDigitTen_walk {v : Value} {n : Nat} {w : World} (hC : CodeIs w.heap.size v n w) (hL : laidMet Tryd.prog Rows.fnDigitTenRow.laid w) :
    Calls Tryd.prog 3 #[v] w fun e w' => e = .returned (.bool true) ∧ RowKit.Below w.heap.size w w' := fnDigitTen.walk hC hL
end Go.Proofs.YtkgammnojgngfaaDoor
