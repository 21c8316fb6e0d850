/-
  WALKS of the reference's capital: each answers its plain function.
-/
import Derived.Test.YtfdbcjdkikmjiaaDoorSpecBase
namespace Go.Proofs.YtfdbcjdkikmjiaaDoor
open Go.RowKit
set_option linter.unusedVariables false

theorem capital_any (r : Int) (w : World) : Calls Tryd.prog 28 #[.int .i32 r] w fun e w' => e = .returned (.bool (capB r)) ∧ w = w' := by
  rcases (by omega : r < 65 ∨ (65 ≤ r ∧ r ≤ 90) ∨ (91 ≤ r ∧ r ≤ 191) ∨ (192 ≤ r ∧ r ≤ 214) ∨ r = 215 ∨ (216 ≤ r ∧ r ≤ 222) ∨ 222 < r) with h | h | h | h | h | h | h
  all_goals
    go_enter Tryd.func28, Tryd.ntmps28
    go_wp2
    go_ret
    exact ⟨ret_bool (by unfold capB; first | (symm; apply decide_eq_true; omega) | (symm; apply decide_eq_false; omega) | (rw [Bool.eq_iff_iff]; simp; omega)), rfl⟩
end Go.Proofs.YtfdbcjdkikmjiaaDoor
