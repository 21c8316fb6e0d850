/-
  WALKS of the reference's capital, small, ToUpper, ToLower, ToTitle, within, Latin: each answers its plain function.
-/
import Derived.Test.YtlpdnaifnnfpjaaDoorProg
import Derived.WalkKit
import Derived.WalkSpells
import Derived.Lib.Hide
namespace Go.Proofs.YtlpdnaifnnfpjaaDoor
open Go.RowKit
set_option linter.unusedVariables false

theorem ret_bool {a b : Bool} (h : a = b) : Ending.returned (.bool a) = .returned (.bool b) := by rw [h]
theorem ret_i32 {a b : Int} (h : a = b) : Ending.returned (.int .i32 a) = .returned (.int .i32 b) := by rw [h]
def latB (r : Int) : Bool := decide (0 ≤ r ∧ r ≤ 255)
def capB (r : Int) : Bool := decide ((65 ≤ r ∧ r ≤ 90) ∨ (192 ≤ r ∧ r ≤ 222 ∧ r ≠ 215))
def smallB (r : Int) : Bool := decide ((97 ≤ r ∧ r ≤ 122) ∨ (224 ≤ r ∧ r ≤ 254 ∧ r ≠ 247))
def upS (r : Int) : Int := if smallB r then r - 32 else if r = 181 then 924 else if r = 255 then 376 else r
def lowS (r : Int) : Int := if capB r then r + 32 else r

theorem latin_any (r : Int) (w : World) : Calls Tryd.prog 12 #[.int .i32 r] w fun e w' => e = .returned (.bool (latB r)) ∧ w = w' := by
  rcases (by omega : r < 0 ∨ (0 ≤ r ∧ r ≤ 255) ∨ 255 < r) with h | h | h
  all_goals
    go_enter Tryd.func12, Tryd.ntmps12
    go_wp2
    go_ret
    exact ⟨ret_bool (by unfold latB; first | (symm; apply decide_eq_true; omega) | (symm; apply decide_eq_false; omega) | (rw [Bool.eq_iff_iff]; simp; omega)), rfl⟩
theorem capital_any (r : Int) (w : World) : Calls Tryd.prog 25 #[.int .i32 r] w fun e w' => e = .returned (.bool (capB r)) ∧ w = w' := by
  rcases (by omega : r < 65 ∨ (65 ≤ r ∧ r ≤ 90) ∨ (91 ≤ r ∧ r ≤ 191) ∨ (192 ≤ r ∧ r ≤ 214) ∨ r = 215 ∨ (216 ≤ r ∧ r ≤ 222) ∨ 222 < r) with h | h | h | h | h | h | h
  all_goals
    go_enter Tryd.func25, Tryd.ntmps25
    go_wp2
    go_ret
    exact ⟨ret_bool (by unfold capB; first | (symm; apply decide_eq_true; omega) | (symm; apply decide_eq_false; omega) | (rw [Bool.eq_iff_iff]; simp; omega)), rfl⟩
theorem small_any (r : Int) (w : World) : Calls Tryd.prog 28 #[.int .i32 r] w fun e w' => e = .returned (.bool (smallB r)) ∧ w = w' := by
  rcases (by omega : r < 97 ∨ (97 ≤ r ∧ r ≤ 122) ∨ (123 ≤ r ∧ r ≤ 223) ∨ (224 ≤ r ∧ r ≤ 246) ∨ r = 247 ∨ (248 ≤ r ∧ r ≤ 254) ∨ 254 < r) with h | h | h | h | h | h | h
  all_goals
    go_enter Tryd.func28, Tryd.ntmps28
    go_wp2
    go_ret
    exact ⟨ret_bool (by unfold smallB; first | (symm; apply decide_eq_true; omega) | (symm; apply decide_eq_false; omega) | (rw [Bool.eq_iff_iff]; simp; omega)), rfl⟩
theorem toUpperS_any (r : Int) (w : World) (h0 : 0 ≤ r) (h1 : r ≤ 255) : Calls Tryd.prog 18 #[.int .i32 r] w fun e w' => e = .returned (.int .i32 (upS r)) ∧ w = w' := by
  unfold upS
  have c := small_any r w
  cases hb : smallB r with
  | true =>
    rw [hb] at c
    have C := Lib.hid c
    clear c
    go_enter Tryd.func18, Tryd.ntmps18
    go_wp2_with (go_at_call 28; refine C.out.mono ?_; rintro e w' ⟨rfl, rfl⟩)
    have hs : 97 ≤ r := by unfold smallB at hb; have := of_decide_eq_true hb; omega
    go_ret
    exact ⟨by first | rfl | (simp only [if_true]; exact ret_i32 (by unfold wrap32; omega)), rfl⟩
  | false =>
    rw [hb] at c
    have C := Lib.hid c
    clear c hb
    rcases (by omega : r = 181 ∨ r = 255 ∨ (r ≠ 181 ∧ r ≠ 255)) with h | h | ⟨h, h'⟩
    · subst h
      go_enter Tryd.func18, Tryd.ntmps18
      go_wp2_with (go_at_call 28; refine C.out.mono ?_; rintro e w' ⟨rfl, rfl⟩)
      go_ret
      exact ⟨rfl, rfl⟩
    · subst h
      go_enter Tryd.func18, Tryd.ntmps18
      go_wp2_with (go_at_call 28; refine C.out.mono ?_; rintro e w' ⟨rfl, rfl⟩)
      go_ret
      exact ⟨rfl, rfl⟩
    · have e1 : (r == 181) = false := by simp [h]
      have e2 : (r == 255) = false := by simp [h']
      go_enter Tryd.func18, Tryd.ntmps18
      go_wp2_with (go_at_call 28; refine C.out.mono ?_; rintro e w' ⟨rfl, rfl⟩)
      go_ret
      exact ⟨by simp, rfl⟩
theorem toTitleS_any (r : Int) (w : World) (h0 : 0 ≤ r) (h1 : r ≤ 255) : Calls Tryd.prog 16 #[.int .i32 r] w fun e w' => e = .returned (.int .i32 (upS r)) ∧ w = w' := by
  have C := Lib.hid (toUpperS_any r w h0 h1)
  go_enter Tryd.func16, Tryd.ntmps16
  go_wp2_with (go_at_call 18; refine C.out.mono ?_; rintro e w' ⟨rfl, rfl⟩)
  go_ret
  exact ⟨rfl, rfl⟩
theorem toLowerS_any (r : Int) (w : World) (h0 : 0 ≤ r) (h1 : r ≤ 255) : Calls Tryd.prog 14 #[.int .i32 r] w fun e w' => e = .returned (.int .i32 (lowS r)) ∧ w = w' := by
  unfold lowS
  have c := capital_any r w
  cases hb : capB r with
  | true =>
    rw [hb] at c
    have C := Lib.hid c
    clear c
    go_enter Tryd.func14, Tryd.ntmps14
    go_wp2_with (go_at_call 25; refine C.out.mono ?_; rintro e w' ⟨rfl, rfl⟩)
    go_ret
    exact ⟨rfl, rfl⟩
  | false =>
    rw [hb] at c
    have C := Lib.hid c
    clear c
    go_enter Tryd.func14, Tryd.ntmps14
    go_wp2_with (go_at_call 25; refine C.out.mono ?_; rintro e w' ⟨rfl, rfl⟩)
    go_ret
    exact ⟨rfl, rfl⟩
end Go.Proofs.YtlpdnaifnnfpjaaDoor
