/-
  WALK of the law FnTitleGeorgian, and its plain law: the letters of Georgian stay in title case and have an upper case of their own.
-/
import Derived.Test.YtgbcidkplanapaaDoorRows
import Derived.Test.YtgbcidkplanapaaDoorCase
import Derived.Test.YtgbcidkplanapaaDoorPlainCase
import Derived.LoopTactic
import Derived.Deep.LoopGhost
namespace Go.Proofs.YtgbcidkplanapaaDoor.fnTitleGeorgian
open Go.RowKit Go.Lib
set_option linter.unusedVariables false

def okAt (k : Nat) : Bool := (Nat.beq k 43 || Nat.beq k 44) || (Nat.beq (Plain.titN (4304 + k)) (4304 + k) && (Nat.beq (Plain.upN (4304 + k)) (7312 + k) && Nat.beq (Plain.lowN (7312 + k)) (4304 + k)))
theorem at_all : ((List.range 48).all okAt) = true := by kernel_rfl
theorem geo (k : Nat) (hk : k < 48) (h1 : k ≠ 43) (h2 : k ≠ 44) : toTitleU (4304 + (k : Int)) = 4304 + (k : Int) ∧ toUpperU (4304 + (k : Int)) = 4304 + (k : Int) + 3008 ∧ toLowerU (4304 + (k : Int) + 3008) = 4304 + (k : Int) := by
  have hq := List.all_eq_true.1 at_all k (List.mem_range.2 hk)
  unfold okAt at hq
  simp only [Bool.or_eq_true, Bool.and_eq_true, Nat.beq_eq] at hq
  rw [show 4304 + (k : Int) + 3008 = ((7312 + k : Nat) : Int) by omega, show 4304 + (k : Int) = ((4304 + k : Nat) : Int) by omega, Plain.toTitleU_nat, Plain.toUpperU_nat, Plain.toLowerU_nat]
  omega

set_option maxHeartbeats 1000000 in
set_option maxRecDepth 100000 in
theorem walk {v : Value} {n : Nat} {w : World} (hC : CodeIs w.heap.size v n w) (hL : laidMet Tryd.prog Rows.fnTitleGeorgianRow.laid w) :
    Calls Tryd.prog 13 #[v] w fun e w' => e = .returned (.bool true) ∧ Below w.heap.size w w' := by
  have HV := Lib.hid (caseVar_of_laid hL (.head _))
  have HC := Lib.hid hC
  obtain ⟨a, cap, rfl⟩ := hC.1
  clear hL hC
  by_cases hn : n ≤ 1048576
  · go_enter Tryd.func13, Tryd.ntmps13
    go_wp2
    go_loopw [3] (fun s wr => ∃ k : Nat, k ≤ 48 ∧ s = .int .i32 (4304 + (k : Int)) ∧ CaseVar 0 caseA wr ∧ Below w.heap.size w wr) (fun s _ => 4352 - (RowKit.intOf s).toNat)
    case atStart => exact ⟨0, by omega, rfl, HV.out, Below.refl _ _⟩
    case round =>
      obtain ⟨k, hk, rfl, hV, hB⟩ := hrel
      have HV0 := Lib.hid hV
      have HB0 := Lib.hid hB
      clear hV hB
      by_cases hlt : k < 48
      · rcases (by omega : k = 43 ∨ k = 44 ∨ (k ≠ 43 ∧ k ≠ 44)) with h | h | ⟨e1, e2⟩
        · subst h
          go_wp2
          go_roundw
          case rel => exact ⟨44, by omega, rfl, HV0.out, HB0.out⟩
          case measure => simp [RowKit.intOf]
        · subst h
          go_wp2
          go_roundw
          case rel => exact ⟨45, by omega, rfl, HV0.out, HB0.out⟩
          case measure => simp [RowKit.intOf]
        · have b1 : (4304 + (k : Int) == 4347) = false := by simp; omega
          have b2 : (4304 + (k : Int) == 4348) = false := by simp; omega
          obtain ⟨gt, gu, gl⟩ := geo k hlt e1 e2
          have GT := Lib.hid gt
          have GU := Lib.hid gu
          have GL := Lib.hid gl
          clear gt gu gl e1 e2
          go_wp2_with fail
          refine (mapTit _ _ HV0.out).mono ?_
          rintro e w1 ⟨rfl, hV, hb⟩
          have HV1 := Lib.hid hV
          have HB1 := Lib.hid (bel_trans HB0.out hb)
          clear hV hb
          rw [GT.out]
          go_wp2_with fail
          refine (mapUp _ _ HV1.out).mono ?_
          rintro e w2 ⟨rfl, hV, hb⟩
          have HV2 := Lib.hid hV
          have HB2 := Lib.hid (bel_trans HB1.out hb)
          clear hV hb
          rw [GU.out]
          go_wp2_with fail
          refine (mapLow _ _ HV2.out).mono ?_
          rintro e w3 ⟨rfl, hV, hb⟩
          have HV3 := Lib.hid hV
          have HB3 := Lib.hid (bel_trans HB2.out hb)
          clear hV hb
          rw [GL.out]
          go_wp2
          go_roundw
          case rel => exact ⟨k + 1, by omega, by go_num, HV3.out, HB3.out⟩
          case measure => simp [RowKit.intOf]; omega
      · go_wp2
        go_ret
        exact ⟨rfl, HB0.out⟩
  · go_enter Tryd.func13, Tryd.ntmps13
    go_wp2
    go_ret
    exact ⟨rfl, Below.refl _ _⟩
end Go.Proofs.YtgbcidkplanapaaDoor.fnTitleGeorgian
namespace Go.Proofs.YtgbcidkplanapaaDoor
theorem fnTitleGeorgian_walk {v : Value} {n : Nat} {w : World} (hC : CodeIs w.heap.size v n w) (hL : laidMet Tryd.prog Rows.fnTitleGeorgianRow.laid w) :
    Calls Tryd.prog 13 #[v] w fun e w' => e = .returned (.bool true) ∧ RowKit.Below w.heap.size w w' := fnTitleGeorgian.walk hC hL
end Go.Proofs.YtgbcidkplanapaaDoor
