/-
  WALKS of the reference's small: each answers its plain function.
-/
import Derived.Test.YtfdbcjdkikmjiaaDoorSpecBase
namespace Go.Proofs.YtfdbcjdkikmjiaaDoor
open Go.RowKit
set_option linter.unusedVariables false

theorem small_any (r : Int) (w : World) : Calls Tryd.prog 29 #[.int .i32 r] w fun e w' => e = .returned (.bool (smallB r)) ∧ w = w' := by
  rcases (by omega : r < 97 ∨ (97 ≤ r ∧ r ≤ 122) ∨ (123 ≤ r ∧ r ≤ 223) ∨ (224 ≤ r ∧ r ≤ 246) ∨ r = 247 ∨ (248 ≤ r ∧ r ≤ 254) ∨ 254 < r) with h | h | h | h | h | h | h
  all_goals
    go_enter Tryd.func29, Tryd.ntmps29
    go_wp2
    go_ret
    exact ⟨ret_bool (by unfold smallB; first | (symm; apply decide_eq_true; omega) | (symm; apply decide_eq_false; omega) | (rw [Bool.eq_iff_iff]; simp; omega)), rfl⟩
end Go.Proofs.YtfdbcjdkikmjiaaDoor
