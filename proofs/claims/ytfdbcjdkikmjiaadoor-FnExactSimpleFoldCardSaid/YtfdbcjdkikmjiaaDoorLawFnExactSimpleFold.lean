/-
  WALK of the law FnExactSimpleFold: SimpleFold of the first 256 numbers against the reference.
-/
import Derived.Test.YtfdbcjdkikmjiaaDoorRows
import Derived.Test.YtfdbcjdkikmjiaaDoorFold
import Derived.Test.YtfdbcjdkikmjiaaDoorSpecFold
import Derived.Test.YtfdbcjdkikmjiaaDoorSpecLatin
namespace Go.Proofs.YtfdbcjdkikmjiaaDoor
open Go.RowKit Go.Lib
set_option linter.unusedVariables false

theorem fnExactSimpleFold_walk (r : Int) (w : World) (h0 : -2147483648 ≤ r) (h1 : r ≤ 2147483647) (hL : laidMet Tryd.prog Rows.fnExactSimpleFoldRow.laid w) :
    Calls Tryd.prog 3 #[.int .i32 r] w fun e w' => e = .returned (.bool true) ∧ Below w.heap.size w w' := by
  have HT := Lib.hid (foldTabs_of_laid hL (.head _) (.tail _ (.head _)) (.tail _ (.tail _ (.head _))))
  clear hL
  by_cases h : 0 ≤ r ∧ r ≤ 255
  · have cl := latin_any r w
    rw [show latB r = true from decide_eq_true h] at cl
    have CL := Lib.hid cl
    have HE := Lib.hid (fold_eq r h.1 h.2)
    obtain ⟨h2, h3⟩ := h
    clear cl
    go_enter Tryd.func3, Tryd.ntmps3
    go_wp2_with fail
    refine CL.out.mono ?_
    rintro e w' ⟨rfl, rfl⟩
    go_wp2_with fail
    refine (mapFold r w HT.out).mono ?_
    rintro e w1 ⟨rfl, -, hb⟩
    have HB := Lib.hid hb
    clear hb
    go_wp2_with fail
    refine (foldS_any r _ h2 h3).mono ?_
    rintro e w' ⟨rfl, rfl⟩
    rw [HE.out]
    go_wp2
    go_ret
    exact ⟨by simp, HB.out⟩
  · have cl := latin_any r w
    rw [show latB r = false from decide_eq_false h] at cl
    have CL := Lib.hid cl
    clear cl h
    go_enter Tryd.func3, Tryd.ntmps3
    go_wp2_with fail
    refine CL.out.mono ?_
    rintro e w' ⟨rfl, rfl⟩
    go_wp2
    go_ret
    exact ⟨rfl, Below.refl _ _⟩
end Go.Proofs.YtfdbcjdkikmjiaaDoor
