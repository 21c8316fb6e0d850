/-
  WALK of the reference's Valid: whether a number is a code point.
-/
import Derived.Test.YtfdbcjdkikmjiaaDoorProg
import Derived.WalkKit
import Derived.WalkSpells
namespace Go.Proofs.YtfdbcjdkikmjiaaDoor
open Go.RowKit
set_option linter.unusedVariables false
theorem valid_yes (r : Int) (w : World) (h : 0 ≤ r ∧ r ≤ 1114111) : Calls Tryd.prog 19 #[.int .i32 r] w fun e w' => e = .returned (.bool true) ∧ w = w' := by
  obtain ⟨h0, h1⟩ := h
  go_enter Tryd.func19, Tryd.ntmps19
  go_wp2
  go_ret
  exact ⟨rfl, rfl⟩
theorem valid_no (r : Int) (w : World) (h : ¬ (0 ≤ r ∧ r ≤ 1114111)) : Calls Tryd.prog 19 #[.int .i32 r] w fun e w' => e = .returned (.bool false) ∧ w = w' := by
  by_cases h0 : r < 0
  · clear h
    go_enter Tryd.func19, Tryd.ntmps19
    go_wp2
    go_ret
    exact ⟨rfl, rfl⟩
  · have h1 : 1114111 < r := by omega
    have hd : decide (r ≤ 1114111) = false := decide_eq_false (by omega)
    clear h
    go_enter Tryd.func19, Tryd.ntmps19
    go_wp2
    go_ret
    exact ⟨rfl, rfl⟩
end Go.Proofs.YtfdbcjdkikmjiaaDoor
