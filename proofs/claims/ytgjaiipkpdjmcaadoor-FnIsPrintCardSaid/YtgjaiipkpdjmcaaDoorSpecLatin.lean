/-
  WALKS of the reference's Latin: each answers its plain function.
-/
import Derived.Test.YtgjaiipkpdjmcaaDoorSpecBase
namespace Go.Proofs.YtgjaiipkpdjmcaaDoor
open Go.RowKit
set_option linter.unusedVariables false

theorem latin_any (r : Int) (w : World) : Calls Tryd.prog 5 #[.int .i32 r] w fun e w' => e = .returned (.bool (latB r)) ∧ w = w' := by
  rcases (by omega : r < 0 ∨ (0 ≤ r ∧ r ≤ 255) ∨ 255 < r) with h | h | h
  all_goals
    go_enter Tryd.func5, Tryd.ntmps5
    go_wp2
    go_ret
    exact ⟨ret_bool (by unfold latB; first | (symm; apply decide_eq_true; omega) | (symm; apply decide_eq_false; omega) | (rw [Bool.eq_iff_iff]; simp; omega)), rfl⟩
end Go.Proofs.YtgjaiipkpdjmcaaDoor
