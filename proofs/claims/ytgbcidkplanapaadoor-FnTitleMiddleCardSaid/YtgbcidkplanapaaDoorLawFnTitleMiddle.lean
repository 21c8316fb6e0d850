/-
  WALK of the law FnTitleMiddle, and its plain law: the letters of two letters have the middle one as title case, and both others as upper and lower case.
-/
import Derived.Test.YtgbcidkplanapaaDoorRows
import Derived.Test.YtgbcidkplanapaaDoorCase
import Derived.Test.YtgbcidkplanapaaDoorPlainCase
import Derived.LoopTactic
import Derived.Deep.QuietTactic
import Derived.BigQuiet
namespace Go.Proofs.YtgbcidkplanapaaDoor.fnTitleMiddle
open Go.RowKit Go.Lib
set_option linter.unusedVariables false

theorem qTit {x z : Int} {wr : World} (hV : CaseVar 0 caseA wr) (hz : toTitleU x = z) (n : Nat) : Calls Tryd.prog 18 #[.int .i32 x] (wr.drewN n) fun e w'' => e = .returned (.int .i32 z) ∧ ∃ m, w'' = wr.drewN m :=
  (implToTitle_any x (wr.drewN n) (caseVar_drewN hV n)).mono fun e w' ⟨he, q, hw⟩ => ⟨by rw [he, hz], n + q, by rw [← hw, World.drewN_drewN]⟩
theorem qUp {x z : Int} {wr : World} (hV : CaseVar 0 caseA wr) (hz : toUpperU x = z) (n : Nat) : Calls Tryd.prog 20 #[.int .i32 x] (wr.drewN n) fun e w'' => e = .returned (.int .i32 z) ∧ ∃ m, w'' = wr.drewN m :=
  (implToUpper_any x (wr.drewN n) (caseVar_drewN hV n)).mono fun e w' ⟨he, q, hw⟩ => ⟨by rw [he, hz], n + q, by rw [← hw, World.drewN_drewN]⟩
theorem qLow {x z : Int} {wr : World} (hV : CaseVar 0 caseA wr) (hz : toLowerU x = z) (n : Nat) : Calls Tryd.prog 15 #[.int .i32 x] (wr.drewN n) fun e w'' => e = .returned (.int .i32 z) ∧ ∃ m, w'' = wr.drewN m :=
  (implToLower_any x (wr.drewN n) (caseVar_drewN hV n)).mono fun e w' ⟨he, q, hw⟩ => ⟨by rw [he, hz], n + q, by rw [← hw, World.drewN_drewN]⟩
def firsts : List Int := [452, 455, 458, 497]
theorem middle_at : ((List.range 4).all fun i => (List.range 3).all fun k => Nat.beq (Plain.titN ((firsts.getD i 0).toNat + k)) ((firsts.getD i 0).toNat + 1) && (Nat.beq (Plain.upN ((firsts.getD i 0).toNat + k)) (firsts.getD i 0).toNat && Nat.beq (Plain.lowN ((firsts.getD i 0).toNat + k)) ((firsts.getD i 0).toNat + 2)) && decide (452 ≤ firsts.getD i 0 ∧ firsts.getD i 0 ≤ 497)) = true := by kernel_rfl
theorem middle (i k : Nat) (hi : i < 4) (hk : k < 3) : toTitleU (firsts.getD i 0 + (k : Int)) = firsts.getD i 0 + 1 ∧ toUpperU (firsts.getD i 0 + (k : Int)) = firsts.getD i 0 ∧ toLowerU (firsts.getD i 0 + (k : Int)) = firsts.getD i 0 + 2 ∧ 452 ≤ firsts.getD i 0 ∧ firsts.getD i 0 ≤ 497 := by
  have h := List.all_eq_true.1 (List.all_eq_true.1 middle_at i (List.mem_range.2 hi)) k (List.mem_range.2 hk)
  generalize firsts.getD i 0 = L at h ⊢
  simp only [Bool.and_eq_true, Nat.beq_eq, decide_eq_true_eq] at h
  obtain ⟨⟨h1, h2, h3⟩, h4, h5⟩ := h
  obtain ⟨l, rfl⟩ : ∃ l : Nat, L = l := ⟨L.toNat, by omega⟩
  rw [Int.toNat_natCast] at h1 h2 h3
  rw [show (l : Int) + (k : Int) = ((l + k : Nat) : Int) by omega, Plain.toTitleU_nat, Plain.toUpperU_nat, Plain.toLowerU_nat, h1, h2, h3]
  omega
def ListAt (B : Nat) (wr : World) : Prop := ∀ j, j < 4 → wr.cell? ⟨B, j, none⟩ = some (.int .i32 (firsts.getD j 0))
theorem list_new (w : World) (t : TypeId) : ListAt w.heap.size (w.alloc (.cells #[.int .i32 452, .int .i32 455, .int .i32 458, .int .i32 497] t)) := fun j hj => by
  rw [World.cell?_alloc_new]
  match j, hj with
  | 0, _ => rfl
  | 1, _ => rfl
  | 2, _ => rfl
  | 3, _ => rfl

set_option maxHeartbeats 4000000 in
set_option maxRecDepth 100000 in
theorem walk {v : Value} {n : Nat} {w : World} (hC : CodeIs w.heap.size v n w) (hL : laidMet Tryd.prog Rows.fnTitleMiddleRow.laid w) :
    Calls Tryd.prog 14 #[v] w fun e w' => e = .returned (.bool true) ∧ Below w.heap.size w w' := by
  have HV := Lib.hid (caseVar_of_laid hL (.head _))
  have HC := Lib.hid hC
  obtain ⟨a, cap, rfl⟩ := hC.1
  clear hL hC
  by_cases hn : n ≤ 1048576
  · go_enter Tryd.func14, Tryd.ntmps14
    go_wp2
    have HL0 := Lib.hid (list_new w 27)
    have HB0 := Lib.hid ((Below.refl w.heap.size w).alloc (Nat.le_refl _) (.cells #[.int .i32 452, .int .i32 455, .int .i32 458, .int .i32 497] 27))
    have HV0 := Lib.hid (caseVar_below HV.out HB0.out)
    go_loopw [4, 5, 6] (fun s4 s5 s6 wr => ∃ i : Nat, i ≤ 4 ∧ s4 = .int .i64 i ∧ CaseVar 0 caseA wr ∧ ListAt w.heap.size wr ∧ Below w.heap.size w wr) (fun s4 _ _ _ => 5 - (RowKit.intOf s4).toNat)
    case atStart => exact ⟨0, by omega, rfl, HV0.out, HL0.out, HB0.out⟩
    case round =>
      rename_i s5 s6 wr
      obtain ⟨i, hi, rfl, hV, hA, hB⟩ := hrel
      have HV1 := Lib.hid hV
      have HL1 := Lib.hid hA
      have HB1 := Lib.hid hB
      clear hV hA hB HV HV0 HL0 HB0
      obtain ⟨wo, rfl⟩ : ∃ wo : World, wo = wr := ⟨_, rfl⟩
      by_cases hi4 : i < 4
      · have di : decide ((i : Int) < 4) = true := decide_eq_true (by omega)
        go_wp2
        go_loopw [5, 6] (fun s5 s6 wr => ∃ k : Nat, k ≤ 3 ∧ s5 = .int .i32 k ∧ CaseVar 0 caseA wr ∧ ListAt w.heap.size wr ∧ Below w.heap.size w wr) (fun s5 _ _ => 4 - (RowKit.intOf s5).toNat)
        case atStart => exact ⟨0, by omega, rfl, HV1.out, HL1.out, HB1.out⟩
        case round =>
          rename_i s6 wr
          obtain ⟨k, hk, rfl, hV, hA, hB⟩ := hrel
          have HV2 := Lib.hid hV
          have HL2 := Lib.hid hA
          have HB2 := Lib.hid hB
          clear hV hA hB HV1 HL1 HB1
          by_cases hk3 : k < 3
          · have hc := HL2.out i hi4
            obtain ⟨e1, e2, e3, l0, l1⟩ := middle i k hi4 hk3
            generalize firsts.getD i 0 = L at hc e1 e2 e3 l0 l1
            have E1 := Lib.hid e1
            have E2 := Lib.hid e2
            have E3 := Lib.hid e3
            clear e1 e2 e3
            go_wp2
            go_quiet ((first | (go_at_call 18; exact qTit HV2.out E1.out _) | (go_at_call 20; exact qUp HV2.out E2.out _) | (go_at_call 15; exact qLow HV2.out E3.out _)))
            go_wp2
            go_roundw
            case rel => exact ⟨k + 1, by omega, by go_num, caseVar_drewN HV2.out _, HL2.out, bel_drewN HB2.out _⟩
            case measure => simp [RowKit.intOf]; omega
          · go_wp2
            go_roundw
            case rel => exact ⟨i + 1, by omega, by go_num, HV2.out, HL2.out, HB2.out⟩
            case measure => simp [RowKit.intOf]; omega
      · go_wp2
        go_ret
        exact ⟨rfl, HB1.out⟩
  · go_enter Tryd.func14, Tryd.ntmps14
    go_wp2
    go_ret
    exact ⟨rfl, Below.refl _ _⟩
end Go.Proofs.YtgbcidkplanapaaDoor.fnTitleMiddle
namespace Go.Proofs.YtgbcidkplanapaaDoor
theorem fnTitleMiddle_walk {v : Value} {n : Nat} {w : World} (hC : CodeIs w.heap.size v n w) (hL : laidMet Tryd.prog Rows.fnTitleMiddleRow.laid w) :
    Calls Tryd.prog 14 #[v] w fun e w' => e = .returned (.bool true) ∧ RowKit.Below w.heap.size w w' := fnTitleMiddle.walk hC hL
end Go.Proofs.YtgbcidkplanapaaDoor
