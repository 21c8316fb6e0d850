/-
  WALKS of the laws FnExactIsControl, FnIsControl.
-/
import Derived.Test.YtlpdnaifnnfpjaaDoorControl
import Derived.Test.YtlpdnaifnnfpjaaDoorDraw
namespace Go.Proofs.YtlpdnaifnnfpjaaDoor
open Go.RowKit Go.Lib
set_option linter.unusedVariables false

theorem fnExactIsControl_walk (r : Int) (w : World) (h0 : -2147483648 ≤ r) (h1 : r ≤ 2147483647) (hL : laidMet Tryd.prog Rows.fnExactIsControlRow.laid w) :
    Calls Tryd.prog 3 #[.int .i32 r] w fun e w' => e = .returned (.bool true) ∧ Below w.heap.size w w' := by
  have HP := Lib.hid (props_of_laid hL (.head _))
  clear hL
  go_enter Tryd.func3, Tryd.ntmps3
  go_wp2_with fail
  refine (implControl_any r w h0 h1 HP.out).mono ?_
  rintro e w' ⟨rfl, rfl⟩
  go_wp2_with fail
  refine (specControl_any r w).mono ?_
  rintro e w' ⟨rfl, rfl⟩
  go_wp2
  go_ret
  exact ⟨retb (by simp), Below.refl _ _⟩
set_option maxHeartbeats 400000 in
theorem fnIsControl_walk {v : Value} {n : Nat} {w : World} (hC : CodeIs w.heap.size v n w) (hL : laidMet Tryd.prog Rows.fnIsControlRow.laid w) :
    Calls Tryd.prog 4 #[v] w fun e w' => e = .returned (.bool true) ∧ Below w.heap.size w w' := by
  have HP := Lib.hid (props_of_laid hL (.head _))
  have HC := Lib.hid hC
  obtain ⟨a, cap, rfl⟩ := hC.1
  clear hL hC
  by_cases hn : n ≤ 1048576
  · go_enter Tryd.func4, Tryd.ntmps4
    go_wp2_with fail
    refine (draw_any HC.out hn).mono ?_
    rintro e w1 ⟨r, h0, h1, rfl, hb⟩
    have HP1 := Lib.hid (props_below HP.out hb)
    have HB := Lib.hid hb
    clear hb
    go_wp2_with fail
    refine (implControl_any r w1 h0 h1 HP1.out).mono ?_
    rintro e w' ⟨rfl, rfl⟩
    go_wp2_with fail
    refine (specControl_any r w1).mono ?_
    rintro e w' ⟨rfl, rfl⟩
    go_wp2
    go_ret
    exact ⟨retb (by simp), HB.out⟩
  · go_enter Tryd.func4, Tryd.ntmps4
    go_wp2
    go_ret
    exact ⟨rfl, Below.refl _ _⟩
end Go.Proofs.YtlpdnaifnnfpjaaDoor
