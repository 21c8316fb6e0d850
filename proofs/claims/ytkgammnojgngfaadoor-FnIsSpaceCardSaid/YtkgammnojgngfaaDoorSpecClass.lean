/-
  WALKS of the reference's IsDigit, IsLetter, IsUpper, IsSpace: each answers its plain function.
-/
import Derived.Test.YtkgammnojgngfaaDoorSpecCap
import Derived.Test.YtkgammnojgngfaaDoorSpecSmall
namespace Go.Proofs.YtkgammnojgngfaaDoor
open Go.RowKit
set_option linter.unusedVariables false

def digB (r : Int) : Bool := decide (48 ≤ r ∧ r ≤ 57)
def restB (r : Int) : Bool := decide (r = 170 ∨ r = 181 ∨ r = 186 ∨ r = 223 ∨ r = 255)
def letB (r : Int) : Bool := capB r || (smallB r || restB r)
def spB (r : Int) : Bool := decide ((9 ≤ r ∧ r ≤ 13) ∨ r = 32 ∨ r = 133 ∨ r = 160 ∨ r = 5760 ∨ (8192 ≤ r ∧ r ≤ 8202) ∨ r = 8232 ∨ r = 8233 ∨ r = 8239 ∨ r = 8287 ∨ r = 12288)
theorem specDigit_any (r : Int) (w : World) : Calls Tryd.prog 17 #[.int .i32 r] w fun e w' => e = .returned (.bool (digB r)) ∧ w = w' := by
  rcases (by omega : r < 48 ∨ (48 ≤ r ∧ r ≤ 57) ∨ 57 < r) with h | h | h
  all_goals
    go_enter Tryd.func17, Tryd.ntmps17
    go_wp2
    go_ret
    exact ⟨ret_bool (by unfold digB; first | (symm; apply decide_eq_true; omega) | (symm; apply decide_eq_false; omega) | (rw [Bool.eq_iff_iff]; simp; omega)), rfl⟩
theorem specUpper_any (r : Int) (w : World) : Calls Tryd.prog 22 #[.int .i32 r] w fun e w' => e = .returned (.bool (capB r)) ∧ w = w' := by
  have C := Lib.hid (capital_any r w)
  go_enter Tryd.func22, Tryd.ntmps22
  go_wp2_with fail
  refine C.out.mono ?_
  rintro e w' ⟨rfl, rfl⟩
  go_wp2
  go_ret
  exact ⟨rfl, rfl⟩
theorem specLetter_any (r : Int) (w : World) : Calls Tryd.prog 19 #[.int .i32 r] w fun e w' => e = .returned (.bool (letB r)) ∧ w = w' := by
  unfold letB
  have c := capital_any r w
  cases hb : capB r with
  | true =>
    rw [hb] at c
    have C := Lib.hid c
    clear c hb
    go_enter Tryd.func19, Tryd.ntmps19
    go_wp2_with (go_at_call 31; refine C.out.mono ?_; rintro e w' ⟨rfl, rfl⟩)
    go_ret
    exact ⟨by simp, rfl⟩
  | false =>
    rw [hb] at c
    have C := Lib.hid c
    clear c hb
    have d := small_any r w
    cases hs : smallB r with
    | true =>
      rw [hs] at d
      have D := Lib.hid d
      clear d hs
      go_enter Tryd.func19, Tryd.ntmps19
      go_wp2_with (first | (go_at_call 31; refine C.out.mono ?_; rintro e w' ⟨rfl, rfl⟩) | (go_at_call 32; refine D.out.mono ?_; rintro e w' ⟨rfl, rfl⟩))
      go_ret
      exact ⟨by simp, rfl⟩
    | false =>
      rw [hs] at d
      have D := Lib.hid d
      clear d hs
      rcases (by omega : r = 170 ∨ r = 181 ∨ r = 186 ∨ r = 223 ∨ r = 255 ∨ (r ≠ 170 ∧ r ≠ 181 ∧ r ≠ 186 ∧ r ≠ 223 ∧ r ≠ 255)) with h | h | h | h | h | ⟨a1, a2, a3, a4, a5⟩
      iterate 5
        (rotate_left)
      · have b1 : (r == 170) = false := by simp [a1]
        have b2 : (r == 181) = false := by simp [a2]
        have b3 : (r == 186) = false := by simp [a3]
        have b4 : (r == 223) = false := by simp [a4]
        have b5 : (r == 255) = false := by simp [a5]
        have hr : restB r = false := by unfold restB; apply decide_eq_false; omega
        rw [hr]
        clear a1 a2 a3 a4 a5 hr
        go_enter Tryd.func19, Tryd.ntmps19
        go_wp2_with (first | (go_at_call 31; refine C.out.mono ?_; rintro e w' ⟨rfl, rfl⟩) | (go_at_call 32; refine D.out.mono ?_; rintro e w' ⟨rfl, rfl⟩))
        go_ret
        exact ⟨by simp, rfl⟩
      all_goals
        subst h
        go_enter Tryd.func19, Tryd.ntmps19
        go_wp2_with (first | (go_at_call 31; refine C.out.mono ?_; rintro e w' ⟨rfl, rfl⟩) | (go_at_call 32; refine D.out.mono ?_; rintro e w' ⟨rfl, rfl⟩))
        go_ret
        exact ⟨rfl, rfl⟩
set_option maxHeartbeats 1000000 in
theorem specSpace_any (r : Int) (w : World) : Calls Tryd.prog 24 #[.int .i32 r] w fun e w' => e = .returned (.bool (spB r)) ∧ w = w' := by
  rcases (by omega : r = 32 ∨ r = 133 ∨ r = 160 ∨ r = 5760 ∨ r = 8232 ∨ r = 8233 ∨ r = 8239 ∨ r = 8287 ∨ r = 12288 ∨ (r ≠ 32 ∧ r ≠ 133 ∧ r ≠ 160 ∧ r ≠ 5760 ∧ r ≠ 8232 ∧ r ≠ 8233 ∧ r ≠ 8239 ∧ r ≠ 8287 ∧ r ≠ 12288)) with h | h | h | h | h | h | h | h | h | ⟨a1, a2, a3, a4, a5, a6, a7, a8, a9⟩
  iterate 9
    (rotate_left)
  · have b1 : (r == 32) = false := by simp [a1]
    have b2 : (r == 133) = false := by simp [a2]
    have b3 : (r == 160) = false := by simp [a3]
    have b4 : (r == 5760) = false := by simp [a4]
    have b5 : (r == 8232) = false := by simp [a5]
    have b6 : (r == 8233) = false := by simp [a6]
    have b7 : (r == 8239) = false := by simp [a7]
    have b8 : (r == 8287) = false := by simp [a8]
    have b9 : (r == 12288) = false := by simp [a9]
    have HS := Lib.hid (show spB r = decide ((9 ≤ r ∧ r ≤ 13) ∨ (8192 ≤ r ∧ r ≤ 8202)) by unfold spB; rw [Bool.eq_iff_iff]; simp only [decide_eq_true_eq]; omega)
    clear a1 a2 a3 a4 a5 a6 a7 a8 a9
    rcases (by omega : r < 9 ∨ (9 ≤ r ∧ r ≤ 13) ∨ (14 ≤ r ∧ r ≤ 8191) ∨ (8192 ≤ r ∧ r ≤ 8202) ∨ 8202 < r) with h | h | h | h | h
    all_goals
      go_enter Tryd.func24, Tryd.ntmps24
      go_wp2
      go_ret
      exact ⟨ret_bool (by rw [HS.out]; first | (symm; apply decide_eq_true; omega) | (symm; apply decide_eq_false; omega) | (rw [Bool.eq_iff_iff]; simp; omega)), rfl⟩
  all_goals
    subst h
    go_enter Tryd.func24, Tryd.ntmps24
    go_wp2
    go_ret
    exact ⟨rfl, rfl⟩
end Go.Proofs.YtkgammnojgngfaaDoor
