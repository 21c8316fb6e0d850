/-
  WALKS of the reference's Surrogate, Private, NonCharacter, Nothing: each answers its plain function.
-/
import Derived.Test.YtfdbcjdkikmjiaaDoorSpecValid
import Derived.Lib.Hide
namespace Go.Proofs.YtfdbcjdkikmjiaaDoor
open Go.RowKit
set_option linter.unusedVariables false

theorem rb {a b : Bool} (h : a = b) : Ending.returned (.bool a) = .returned (.bool b) := by rw [h]
def validB (r : Int) : Bool := decide (0 ≤ r ∧ r ≤ 1114111)
def surrB (r : Int) : Bool := decide (55296 ≤ r ∧ r ≤ 57343)
def privB (r : Int) : Bool := decide ((57344 ≤ r ∧ r ≤ 63743) ∨ (983040 ≤ r ∧ r ≤ 1048573) ∨ (1048576 ≤ r ∧ r ≤ 1114109))
def nonB (r : Int) : Bool := decide ((0 ≤ r ∧ r ≤ 1114111) ∧ (65534 ≤ r % 65536 ∨ (64976 ≤ r ∧ r ≤ 65007)))
def nothB (r : Int) : Bool := !validB r || (surrB r || (privB r || nonB r))
theorem valid_any (r : Int) (w : World) : Calls Tryd.prog 19 #[.int .i32 r] w fun e w' => e = .returned (.bool (validB r)) ∧ w = w' := by
  by_cases h : 0 ≤ r ∧ r ≤ 1114111
  · rw [show validB r = true from decide_eq_true h]; exact valid_yes r w h
  · rw [show validB r = false from decide_eq_false h]; exact valid_no r w h
theorem surrogate_any (r : Int) (w : World) : Calls Tryd.prog 36 #[.int .i32 r] w fun e w' => e = .returned (.bool (surrB r)) ∧ w = w' := by
  rcases (by omega : r < 55296 ∨ (55296 ≤ r ∧ r ≤ 57343) ∨ 57343 < r) with h | h | h
  all_goals
    go_enter Tryd.func36, Tryd.ntmps36
    go_wp2
    go_ret
    exact ⟨rb (by unfold surrB; first | (symm; apply decide_eq_true; omega) | (symm; apply decide_eq_false; omega) | (rw [Bool.eq_iff_iff]; simp; omega)), rfl⟩
theorem private_any (r : Int) (w : World) : Calls Tryd.prog 37 #[.int .i32 r] w fun e w' => e = .returned (.bool (privB r)) ∧ w = w' := by
  rcases (by omega : r < 57344 ∨ (57344 ≤ r ∧ r ≤ 63743) ∨ (63744 ≤ r ∧ r ≤ 983039) ∨ (983040 ≤ r ∧ r ≤ 1048573) ∨ (1048574 ≤ r ∧ r ≤ 1048575) ∨ (1048576 ≤ r ∧ r ≤ 1114109) ∨ 1114109 < r) with h | h | h | h | h | h | h
  all_goals
    go_enter Tryd.func37, Tryd.ntmps37
    go_wp2
    go_ret
    exact ⟨rb (by unfold privB; first | (symm; apply decide_eq_true; omega) | (symm; apply decide_eq_false; omega) | (rw [Bool.eq_iff_iff]; simp; omega)), rfl⟩
theorem nonchar_any (r : Int) (w : World) : Calls Tryd.prog 38 #[.int .i32 r] w fun e w' => e = .returned (.bool (nonB r)) ∧ w = w' := by
  by_cases hv : 0 ≤ r ∧ r ≤ 1114111
  · have C := Lib.hid (valid_yes r w hv)
    obtain ⟨h0, h1⟩ := hv
    by_cases hm : 65534 ≤ r % 65536
    · go_enter Tryd.func38, Tryd.ntmps38
      go_wp2_with fail
      refine C.out.mono ?_
      rintro e w' ⟨rfl, rfl⟩
      go_wp2
      go_ret
      exact ⟨rb (by unfold nonB; first | (symm; apply decide_eq_true; omega) | (symm; apply decide_eq_false; omega) | (rw [Bool.eq_iff_iff]; simp; omega)), rfl⟩
    · have hd : decide (65534 ≤ r % 65536) = false := decide_eq_false hm
      rcases (by omega : r < 64976 ∨ (64976 ≤ r ∧ r ≤ 65007) ∨ 65007 < r) with h | h | h
      all_goals
        go_enter Tryd.func38, Tryd.ntmps38
        go_wp2_with fail
        refine C.out.mono ?_
        rintro e w' ⟨rfl, rfl⟩
        go_wp2
        go_ret
        exact ⟨rb (by unfold nonB; first | (symm; apply decide_eq_true; omega) | (symm; apply decide_eq_false; omega) | (rw [Bool.eq_iff_iff]; simp; omega)), rfl⟩
  · have C := Lib.hid (valid_no r w hv)
    have HN := Lib.hid (show nonB r = false by unfold nonB; apply decide_eq_false; omega)
    clear hv
    go_enter Tryd.func38, Tryd.ntmps38
    go_wp2_with fail
    refine C.out.mono ?_
    rintro e w' ⟨rfl, rfl⟩
    go_wp2
    go_ret
    exact ⟨rb HN.out.symm, rfl⟩
theorem nothing_any (r : Int) (w : World) : Calls Tryd.prog 24 #[.int .i32 r] w fun e w' => e = .returned (.bool (nothB r)) ∧ w = w' := by
  unfold nothB
  have c1 := valid_any r w
  have c2 := surrogate_any r w
  have c3 := private_any r w
  have C4 := Lib.hid (nonchar_any r w)
  cases hv : validB r <;> rw [hv] at c1
  · have C1 := Lib.hid c1
    clear c1 c2 c3 hv C4
    go_enter Tryd.func24, Tryd.ntmps24
    go_wp2_with fail
    refine C1.out.mono ?_
    rintro e w' ⟨rfl, rfl⟩
    go_wp2
    go_ret
    exact ⟨by simp, rfl⟩
  · have C1 := Lib.hid c1
    clear c1 hv
    cases hs : surrB r <;> rw [hs] at c2
    · have C2 := Lib.hid c2
      clear c2 hs
      cases hp : privB r <;> rw [hp] at c3
      · have C3 := Lib.hid c3
        clear c3 hp
        go_enter Tryd.func24, Tryd.ntmps24
        go_wp2_with fail
        refine C1.out.mono ?_
        rintro e w' ⟨rfl, rfl⟩
        go_wp2_with fail
        refine C2.out.mono ?_
        rintro e w' ⟨rfl, rfl⟩
        go_wp2_with fail
        refine C3.out.mono ?_
        rintro e w' ⟨rfl, rfl⟩
        go_wp2_with fail
        refine C4.out.mono ?_
        rintro e w' ⟨rfl, rfl⟩
        go_wp2
        go_ret
        exact ⟨by simp, rfl⟩
      · have C3 := Lib.hid c3
        clear c3 hp C4
        go_enter Tryd.func24, Tryd.ntmps24
        go_wp2_with fail
        refine C1.out.mono ?_
        rintro e w' ⟨rfl, rfl⟩
        go_wp2_with fail
        refine C2.out.mono ?_
        rintro e w' ⟨rfl, rfl⟩
        go_wp2_with fail
        refine C3.out.mono ?_
        rintro e w' ⟨rfl, rfl⟩
        go_wp2
        go_ret
        exact ⟨by simp, rfl⟩
    · have C2 := Lib.hid c2
      clear c2 c3 hs C4
      go_enter Tryd.func24, Tryd.ntmps24
      go_wp2_with fail
      refine C1.out.mono ?_
      rintro e w' ⟨rfl, rfl⟩
      go_wp2_with fail
      refine C2.out.mono ?_
      rintro e w' ⟨rfl, rfl⟩
      go_wp2
      go_ret
      exact ⟨by simp, rfl⟩
end Go.Proofs.YtfdbcjdkikmjiaaDoor
