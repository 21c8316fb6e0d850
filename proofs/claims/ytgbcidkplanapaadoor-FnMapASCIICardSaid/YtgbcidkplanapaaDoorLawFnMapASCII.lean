/-
  WALK of the law FnMapASCII, and its plain law: one of the first 128 is mapped to one of them, and of all others just two in upper, two in lower case.
-/
import Derived.Test.YtgbcidkplanapaaDoorRows
import Derived.Test.YtgbcidkplanapaaDoorCase
import Derived.Test.YtgbcidkplanapaaDoorPlainCase
import Derived.Test.YtgbcidkplanapaaDoorDraw
namespace Go.Proofs.YtgbcidkplanapaaDoor.fnMapASCII
open Go.RowKit Go.Lib
set_option linter.unusedVariables false

def okAt (r : Nat) : Bool :=
  bif Nat.ble r 127 then Nat.ble (Plain.upN r) 127 && (Nat.ble (Plain.lowN r) 127 && Nat.ble (Plain.titN r) 127)
  else (Nat.beq r 305 || (Nat.beq r 383 || (Nat.beq r 304 || Nat.beq r 8490))) || (Nat.blt 127 (Plain.upN r) && (Nat.blt 127 (Plain.lowN r) && Nat.blt 127 (Plain.titN r)))
theorem at_special : Plain.specAll okAt = true := by kernel_rfl
theorem near (r : Int) (h0 : 0 ≤ r) (h1 : r ≤ 127) : toUpperU r ≤ 127 ∧ toLowerU r ≤ 127 ∧ toTitleU r ≤ 127 := by
  obtain ⟨k, rfl⟩ : ∃ k : Nat, r = k := ⟨r.toNat, by omega⟩
  rw [Plain.toUpperU_nat, Plain.toLowerU_nat, Plain.toTitleU_nat]
  rcases Plain.special at_special k with hq | ho
  · unfold okAt at hq
    rw [Nat.ble_eq_true_of_le (by omega), cond_true] at hq
    simp only [Bool.and_eq_true, Nat.ble_eq] at hq
    omega
  · have := ho.1; omega
theorem far (r : Int) (h : 127 < r) (h1 : r ≠ 305) (h2 : r ≠ 383) (h3 : r ≠ 304) (h4 : r ≠ 8490) : 127 < toUpperU r ∧ 127 < toLowerU r ∧ 127 < toTitleU r := by
  obtain ⟨k, rfl⟩ : ∃ k : Nat, r = k := ⟨r.toNat, by omega⟩
  rw [Plain.toUpperU_nat, Plain.toLowerU_nat, Plain.toTitleU_nat]
  rcases Plain.special at_special k with hq | ho
  · unfold okAt at hq
    have hb : Nat.ble k 127 = false := by rw [← Bool.not_eq_true, Nat.ble_eq]; omega
    rw [hb, cond_false] at hq
    simp only [Bool.or_eq_true, Bool.and_eq_true, Nat.beq_eq, Nat.blt_eq] at hq
    omega
  · rw [ho.up, ho.low, ho.tit]
    omega
theorem u305 : toUpperU 305 = 73 ∧ toLowerU 305 = 305 ∧ toTitleU 305 = 73 := ⟨by kernel_rfl, by kernel_rfl, by kernel_rfl⟩
theorem u383 : toUpperU 383 = 83 ∧ toLowerU 383 = 383 ∧ toTitleU 383 = 83 := ⟨by kernel_rfl, by kernel_rfl, by kernel_rfl⟩
theorem u304 : toUpperU 304 = 304 ∧ toLowerU 304 = 105 ∧ toTitleU 304 = 304 := ⟨by kernel_rfl, by kernel_rfl, by kernel_rfl⟩
theorem u8490 : toUpperU 8490 = 8490 ∧ toLowerU 8490 = 107 ∧ toTitleU 8490 = 8490 := ⟨by kernel_rfl, by kernel_rfl, by kernel_rfl⟩

set_option maxHeartbeats 1000000 in
theorem walk {v : Value} {n : Nat} {w : World} (hC : CodeIs w.heap.size v n w) (hL : laidMet Tryd.prog Rows.fnMapASCIIRow.laid w) :
    Calls Tryd.prog 12 #[v] w fun e w' => e = .returned (.bool true) ∧ Below w.heap.size w w' := by
  have HV := Lib.hid (caseVar_of_laid hL (.head _))
  have HC := Lib.hid hC
  obtain ⟨a, cap, rfl⟩ := hC.1
  clear hL hC
  by_cases hn : n ≤ 1048576
  · go_enter Tryd.func12, Tryd.ntmps12
    go_wp2_with fail
    refine (draw_any HC.out hn).mono ?_
    rintro e w1 ⟨r, h0, h1, rfl, hb⟩
    have HV1 := Lib.hid (caseVar_below HV.out hb)
    have HB1 := Lib.hid hb
    clear hb
    rcases (by omega : r < 0 ∨ (0 ≤ r ∧ r ≤ 127) ∨ r = 305 ∨ r = 383 ∨ r = 304 ∨ r = 8490 ∨ (127 < r ∧ r ≠ 305 ∧ r ≠ 383 ∧ r ≠ 304 ∧ r ≠ 8490)) with h | h | h | h | h | h | h
    · go_wp2
      go_ret
      exact ⟨rfl, HB1.out⟩
    · obtain ⟨hr0, hr1⟩ := h
      obtain ⟨hu, hl, ht⟩ := near r hr0 hr1
      have du : decide (toUpperU r ≤ 127) = true := decide_eq_true hu
      have dl : decide (toLowerU r ≤ 127) = true := decide_eq_true hl
      have dt : decide (toTitleU r ≤ 127) = true := decide_eq_true ht
      go_wp2_with fail
      refine (mapUp _ _ HV1.out).mono ?_
      rintro e w2 ⟨rfl, hV, hb⟩
      have HV2 := Lib.hid hV
      have HB2 := Lib.hid (bel_trans HB1.out hb)
      clear hV hb
      go_wp2_with fail
      refine (mapLow _ _ HV2.out).mono ?_
      rintro e w3 ⟨rfl, hV, hb⟩
      have HV3 := Lib.hid hV
      have HB3 := Lib.hid (bel_trans HB2.out hb)
      clear hV hb
      go_wp2_with fail
      refine (mapTit _ _ HV3.out).mono ?_
      rintro e w4 ⟨rfl, hV, hb⟩
      have HV4 := Lib.hid hV
      have HB4 := Lib.hid (bel_trans HB3.out hb)
      clear hV hb
      go_wp2
      go_ret
      exact ⟨rfl, HB4.out⟩
    · subst h
      go_wp2_with fail
      refine (mapUp _ _ HV1.out).mono ?_
      rintro e w2 ⟨rfl, hV, hb⟩
      have HV2 := Lib.hid hV
      have HB2 := Lib.hid (bel_trans HB1.out hb)
      clear hV hb
      rw [u305.1]
      go_wp2_with fail
      refine (mapLow _ _ HV2.out).mono ?_
      rintro e w3 ⟨rfl, hV, hb⟩
      have HV3 := Lib.hid hV
      have HB3 := Lib.hid (bel_trans HB2.out hb)
      clear hV hb
      rw [u305.2.1]
      go_wp2_with fail
      refine (mapTit _ _ HV3.out).mono ?_
      rintro e w4 ⟨rfl, hV, hb⟩
      have HV4 := Lib.hid hV
      have HB4 := Lib.hid (bel_trans HB3.out hb)
      clear hV hb
      rw [u305.2.2]
      go_wp2
      go_ret
      exact ⟨rfl, HB4.out⟩
    · subst h
      go_wp2_with fail
      refine (mapUp _ _ HV1.out).mono ?_
      rintro e w2 ⟨rfl, hV, hb⟩
      have HV2 := Lib.hid hV
      have HB2 := Lib.hid (bel_trans HB1.out hb)
      clear hV hb
      rw [u383.1]
      go_wp2_with fail
      refine (mapLow _ _ HV2.out).mono ?_
      rintro e w3 ⟨rfl, hV, hb⟩
      have HV3 := Lib.hid hV
      have HB3 := Lib.hid (bel_trans HB2.out hb)
      clear hV hb
      rw [u383.2.1]
      go_wp2_with fail
      refine (mapTit _ _ HV3.out).mono ?_
      rintro e w4 ⟨rfl, hV, hb⟩
      have HV4 := Lib.hid hV
      have HB4 := Lib.hid (bel_trans HB3.out hb)
      clear hV hb
      rw [u383.2.2]
      go_wp2
      go_ret
      exact ⟨rfl, HB4.out⟩
    · subst h
      go_wp2_with fail
      refine (mapUp _ _ HV1.out).mono ?_
      rintro e w2 ⟨rfl, hV, hb⟩
      have HV2 := Lib.hid hV
      have HB2 := Lib.hid (bel_trans HB1.out hb)
      clear hV hb
      rw [u304.1]
      go_wp2_with fail
      refine (mapLow _ _ HV2.out).mono ?_
      rintro e w3 ⟨rfl, hV, hb⟩
      have HV3 := Lib.hid hV
      have HB3 := Lib.hid (bel_trans HB2.out hb)
      clear hV hb
      rw [u304.2.1]
      go_wp2_with fail
      refine (mapTit _ _ HV3.out).mono ?_
      rintro e w4 ⟨rfl, hV, hb⟩
      have HV4 := Lib.hid hV
      have HB4 := Lib.hid (bel_trans HB3.out hb)
      clear hV hb
      rw [u304.2.2]
      go_wp2
      go_ret
      exact ⟨rfl, HB4.out⟩
    · subst h
      go_wp2_with fail
      refine (mapUp _ _ HV1.out).mono ?_
      rintro e w2 ⟨rfl, hV, hb⟩
      have HV2 := Lib.hid hV
      have HB2 := Lib.hid (bel_trans HB1.out hb)
      clear hV hb
      rw [u8490.1]
      go_wp2_with fail
      refine (mapLow _ _ HV2.out).mono ?_
      rintro e w3 ⟨rfl, hV, hb⟩
      have HV3 := Lib.hid hV
      have HB3 := Lib.hid (bel_trans HB2.out hb)
      clear hV hb
      rw [u8490.2.1]
      go_wp2_with fail
      refine (mapTit _ _ HV3.out).mono ?_
      rintro e w4 ⟨rfl, hV, hb⟩
      have HV4 := Lib.hid hV
      have HB4 := Lib.hid (bel_trans HB3.out hb)
      clear hV hb
      rw [u8490.2.2]
      go_wp2
      go_ret
      exact ⟨rfl, HB4.out⟩
    · obtain ⟨hr, e1, e2, e3, e4⟩ := h
      obtain ⟨hu, hl, ht⟩ := far r hr e1 e2 e3 e4
      have du : decide (toUpperU r ≤ 127) = false := decide_eq_false (by omega)
      have dl : decide (toLowerU r ≤ 127) = false := decide_eq_false (by omega)
      have dt : decide (toTitleU r ≤ 127) = false := decide_eq_false (by omega)
      have b1 : (r == 305) = false := by simp [e1]
      have b2 : (r == 383) = false := by simp [e2]
      have b3 : (r == 304) = false := by simp [e3]
      have b4 : (r == 8490) = false := by simp [e4]
      clear e1 e2 e3 e4
      go_wp2_with fail
      refine (mapUp _ _ HV1.out).mono ?_
      rintro e w2 ⟨rfl, hV, hb⟩
      have HV2 := Lib.hid hV
      have HB2 := Lib.hid (bel_trans HB1.out hb)
      clear hV hb
      go_wp2_with fail
      refine (mapLow _ _ HV2.out).mono ?_
      rintro e w3 ⟨rfl, hV, hb⟩
      have HV3 := Lib.hid hV
      have HB3 := Lib.hid (bel_trans HB2.out hb)
      clear hV hb
      go_wp2_with fail
      refine (mapTit _ _ HV3.out).mono ?_
      rintro e w4 ⟨rfl, hV, hb⟩
      have HV4 := Lib.hid hV
      have HB4 := Lib.hid (bel_trans HB3.out hb)
      clear hV hb
      go_wp2
      go_ret
      exact ⟨rfl, HB4.out⟩
  · go_enter Tryd.func12, Tryd.ntmps12
    go_wp2
    go_ret
    exact ⟨rfl, Below.refl _ _⟩
end Go.Proofs.YtgbcidkplanapaaDoor.fnMapASCII
namespace Go.Proofs.YtgbcidkplanapaaDoor
theorem fnMapASCII_walk {v : Value} {n : Nat} {w : World} (hC : CodeIs w.heap.size v n w) (hL : laidMet Tryd.prog Rows.fnMapASCIIRow.laid w) :
    Calls Tryd.prog 12 #[v] w fun e w' => e = .returned (.bool true) ∧ RowKit.Below w.heap.size w w' := fnMapASCII.walk hC hL
end Go.Proofs.YtgbcidkplanapaaDoor
