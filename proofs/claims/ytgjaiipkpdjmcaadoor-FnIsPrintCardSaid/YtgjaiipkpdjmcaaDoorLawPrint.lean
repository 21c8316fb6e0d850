/-
  WALKS of the laws FnExactIsPrint, FnIsPrint.
-/
import Derived.Test.YtgjaiipkpdjmcaaDoorPrint
import Derived.Test.YtgjaiipkpdjmcaaDoorSpecLatin
import Derived.Test.YtgjaiipkpdjmcaaDoorDrawLatin
namespace Go.Proofs.YtgjaiipkpdjmcaaDoor
open Go.RowKit Go.Lib
set_option linter.unusedVariables false

theorem fnExactIsPrint_walk (r : Int) (w : World) (h0 : -2147483648 ≤ r) (h1 : r ≤ 2147483647) (hL : laidMet Tryd.prog Rows.fnExactIsPrintRow.laid w) :
    Calls Tryd.prog 3 #[.int .i32 r] w fun e w' => e = .returned (.bool true) ∧ Below w.heap.size w w' := by
  have HP := Lib.hid (props_of_laid hL (.head _))
  clear hL
  by_cases h : 0 ≤ r ∧ r ≤ 255
  · have cl := latin_any r w
    rw [show latB r = true from decide_eq_true h] at cl
    have CL := Lib.hid cl
    obtain ⟨h2, h3⟩ := h
    clear cl
    go_enter Tryd.func3, Tryd.ntmps3
    go_wp2_with fail
    refine CL.out.mono ?_
    rintro e w' ⟨rfl, rfl⟩
    go_wp2_with fail
    refine (implPrint_any r w h2 h3 HP.out).mono ?_
    rintro e w' ⟨rfl, rfl⟩
    go_wp2_with fail
    refine (specPrint_any r w h2 h3).mono ?_
    rintro e w' ⟨rfl, rfl⟩
    go_wp2
    go_ret
    exact ⟨ret_bool (by simp), Below.refl _ _⟩
  · have cl := latin_any r w
    rw [show latB r = false from decide_eq_false h] at cl
    have CL := Lib.hid cl
    clear cl h
    go_enter Tryd.func3, Tryd.ntmps3
    go_wp2_with fail
    refine CL.out.mono ?_
    rintro e w' ⟨rfl, rfl⟩
    go_wp2
    go_ret
    exact ⟨rfl, Below.refl _ _⟩
set_option maxHeartbeats 400000 in
theorem fnIsPrint_walk {v : Value} {n : Nat} {w : World} (hC : CodeIs w.heap.size v n w) (hL : laidMet Tryd.prog Rows.fnIsPrintRow.laid w) :
    Calls Tryd.prog 4 #[v] w fun e w' => e = .returned (.bool true) ∧ Below w.heap.size w w' := by
  have HP := Lib.hid (props_of_laid hL (.head _))
  have HC := Lib.hid hC
  obtain ⟨a, cap, rfl⟩ := hC.1
  clear hL hC
  by_cases hn : n ≤ 1048576
  · go_enter Tryd.func4, Tryd.ntmps4
    go_wp2_with fail
    refine (drawLatin_any HC.out hn).mono ?_
    rintro e w1 ⟨r, hr, rfl, hb⟩
    have HP1 := Lib.hid (props_below HP.out hb)
    have HB := Lib.hid hb
    clear hb
    go_wp2_with fail
    refine (implPrint_any _ w1 (by omega) (by omega) HP1.out).mono ?_
    rintro e w' ⟨rfl, rfl⟩
    go_wp2_with fail
    refine (specPrint_any _ w1 (by omega) (by omega)).mono ?_
    rintro e w' ⟨rfl, rfl⟩
    go_wp2
    go_ret
    exact ⟨ret_bool (by simp), HB.out⟩
  · go_enter Tryd.func4, Tryd.ntmps4
    go_wp2
    go_ret
    exact ⟨rfl, Below.refl _ _⟩
end Go.Proofs.YtgjaiipkpdjmcaaDoor
