/-
  WALKS of the reference's ToUpper, ToTitle: each answers its plain function.
-/
import Derived.Test.YtgbcidkplanapaaDoorSpecSmall
namespace Go.Proofs.YtgbcidkplanapaaDoor
open Go.RowKit
set_option linter.unusedVariables false

theorem toUpperS_any (r : Int) (w : World) (h0 : 0 ≤ r) (h1 : r ≤ 255) : Calls Tryd.prog 21 #[.int .i32 r] w fun e w' => e = .returned (.int .i32 (upS r)) ∧ w = w' := by
  unfold upS
  have c := small_any r w
  cases hb : smallB r with
  | true =>
    rw [hb] at c
    have C := Lib.hid c
    clear c
    go_enter Tryd.func21, Tryd.ntmps21
    go_wp2_with (go_at_call 29; refine C.out.mono ?_; rintro e w' ⟨rfl, rfl⟩)
    have hs : 97 ≤ r := by unfold smallB at hb; have := of_decide_eq_true hb; omega
    go_ret
    exact ⟨by first | rfl | (simp only [if_true]; exact ret_i32 (by unfold wrap32; omega)), rfl⟩
  | false =>
    rw [hb] at c
    have C := Lib.hid c
    clear c hb
    rcases (by omega : r = 181 ∨ r = 255 ∨ (r ≠ 181 ∧ r ≠ 255)) with h | h | ⟨h, h'⟩
    · subst h
      go_enter Tryd.func21, Tryd.ntmps21
      go_wp2_with (go_at_call 29; refine C.out.mono ?_; rintro e w' ⟨rfl, rfl⟩)
      go_ret
      exact ⟨rfl, rfl⟩
    · subst h
      go_enter Tryd.func21, Tryd.ntmps21
      go_wp2_with (go_at_call 29; refine C.out.mono ?_; rintro e w' ⟨rfl, rfl⟩)
      go_ret
      exact ⟨rfl, rfl⟩
    · have e1 : (r == 181) = false := by simp [h]
      have e2 : (r == 255) = false := by simp [h']
      go_enter Tryd.func21, Tryd.ntmps21
      go_wp2_with (go_at_call 29; refine C.out.mono ?_; rintro e w' ⟨rfl, rfl⟩)
      go_ret
      exact ⟨by simp, rfl⟩
theorem toTitleS_any (r : Int) (w : World) (h0 : 0 ≤ r) (h1 : r ≤ 255) : Calls Tryd.prog 19 #[.int .i32 r] w fun e w' => e = .returned (.int .i32 (upS r)) ∧ w = w' := by
  have C := Lib.hid (toUpperS_any r w h0 h1)
  go_enter Tryd.func19, Tryd.ntmps19
  go_wp2_with (go_at_call 21; refine C.out.mono ?_; rintro e w' ⟨rfl, rfl⟩)
  go_ret
  exact ⟨rfl, rfl⟩
end Go.Proofs.YtgbcidkplanapaaDoor
