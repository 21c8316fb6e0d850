/-
  WALK of the law FnIsSpace: IsSpace against the reference.
-/
import Derived.Test.YtkgammnojgngfaaDoorRows
import Derived.Test.YtkgammnojgngfaaDoorClass
import Derived.Test.YtkgammnojgngfaaDoorLatinClass
import Derived.Test.YtkgammnojgngfaaDoorDraw
namespace Go.Proofs.YtkgammnojgngfaaDoor
open Go.RowKit Go.Lib
set_option linter.unusedVariables false

set_option maxHeartbeats 400000 in
theorem fnIsSpace_walk {v : Value} {n : Nat} {w : World} (hC : CodeIs w.heap.size v n w) (hL : laidMet Tryd.prog Rows.fnIsSpaceRow.laid w) :
    Calls Tryd.prog 11 #[v] w fun e w' => e = .returned (.bool true) ∧ Below w.heap.size w w' := by
  have HV := Lib.hid (white_of_laid hL (.head _))
  have HC := Lib.hid hC
  obtain ⟨a, cap, rfl⟩ := hC.1
  clear hL hC
  by_cases hn : n ≤ 1048576
  · go_enter Tryd.func11, Tryd.ntmps11
    go_wp2_with fail
    refine (draw_any HC.out hn).mono ?_
    rintro e w1 ⟨r, h0, h1, rfl, hb⟩
    have HE := Lib.hid (isSpace_eq r)
    have HV1 := Lib.hid (WhiteTab_below HV.out hb)
    have HB1 := Lib.hid hb
    clear hb
    go_wp2_with fail
    refine (isSpace_any r w1 h0 h1 HV1.out).mono ?_
    rintro e w2 ⟨rfl, hb⟩
    have HB := Lib.hid (bel_trans' HB1.out hb)
    clear hb
    go_wp2_with fail
    refine (specSpace_any _ _).mono ?_
    rintro e w' ⟨rfl, rfl⟩
    go_wp2
    go_ret
    exact ⟨ret_beq HE.out, HB.out⟩
  · go_enter Tryd.func11, Tryd.ntmps11
    go_wp2
    go_ret
    exact ⟨rfl, Below.refl _ _⟩
end Go.Proofs.YtkgammnojgngfaaDoor
