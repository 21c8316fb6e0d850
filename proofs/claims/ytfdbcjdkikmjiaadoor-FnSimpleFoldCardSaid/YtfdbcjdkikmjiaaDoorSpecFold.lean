/-
  WALK of the reference's SimpleFold at the first 256 numbers; and that it is the library's there.
-/
import Derived.Test.YtfdbcjdkikmjiaaDoorSpecCap
import Derived.Test.YtfdbcjdkikmjiaaDoorSpecSmall
import Derived.Test.YtfdbcjdkikmjiaaDoorPlainFold
namespace Go.Proofs.YtfdbcjdkikmjiaaDoor
open Go.RowKit
set_option linter.unusedVariables false

def foldRest (r : Int) : Int := if capB r then r + 32 else if smallB r then r - 32 else r
def foldS (r : Int) : Int := if r = 107 then 8490 else if r = 115 then 383 else if r = 181 then 924 else if r = 223 then 7838 else if r = 229 then 8491 else if r = 255 then 376 else foldRest r
theorem fold_latin : ((List.range 256).all fun k => Nat.beq (Plain.foldN k) (foldS (k : Int)).toNat && decide (0 ≤ foldS (k : Int))) = true := by kernel_rfl
theorem fold_eq (r : Int) (h0 : 0 ≤ r) (h1 : r ≤ 255) : Plain.foldI r = foldS r := by
  obtain ⟨k, rfl⟩ : ∃ k : Nat, r = k := ⟨r.toNat, by omega⟩
  have := List.all_eq_true.1 fold_latin k (List.mem_range.2 (by omega))
  simp only [Bool.and_eq_true, decide_eq_true_eq, Nat.beq_eq] at this
  unfold Plain.foldI
  rw [if_pos (by omega), Int.toNat_natCast]
  omega
set_option maxHeartbeats 1000000 in
theorem foldS_any (r : Int) (w : World) (h0 : 0 ≤ r) (h1 : r ≤ 255) : Calls Tryd.prog 17 #[.int .i32 r] w fun e w' => e = .returned (.int .i32 (foldS r)) ∧ w = w' := by
  rcases (by omega : r = 107 ∨ r = 115 ∨ r = 181 ∨ r = 223 ∨ r = 229 ∨ r = 255 ∨ (r ≠ 107 ∧ r ≠ 115 ∧ r ≠ 181 ∧ r ≠ 223 ∧ r ≠ 229 ∧ r ≠ 255)) with h | h | h | h | h | h | ⟨a1, a2, a3, a4, a5, a6⟩
  iterate 6
    (rotate_left)
  · have e : foldS r = foldRest r := by unfold foldS; rw [if_neg a1, if_neg a2, if_neg a3, if_neg a4, if_neg a5, if_neg a6]
    rw [e]
    unfold foldRest
    have b1 : (r == 107) = false := by simp [a1]
    have b2 : (r == 115) = false := by simp [a2]
    have b3 : (r == 181) = false := by simp [a3]
    have b4 : (r == 223) = false := by simp [a4]
    have b5 : (r == 229) = false := by simp [a5]
    have b6 : (r == 255) = false := by simp [a6]
    clear a1 a2 a3 a4 a5 a6 e
    have c := capital_any r w
    have d := small_any r w
    cases hb : capB r with
    | true =>
      rw [hb] at c
      have C := Lib.hid c
      clear c d hb
      go_enter Tryd.func17, Tryd.ntmps17
      go_wp2_with fail
      refine C.out.mono ?_
      rintro e w' ⟨rfl, rfl⟩
      go_wp2
      go_ret
      exact ⟨rfl, rfl⟩
    | false =>
      rw [hb] at c
      have C := Lib.hid c
      clear c hb
      cases hs : smallB r with
      | true =>
        rw [hs] at d
        have D := Lib.hid d
        have hs2 : 97 ≤ r := by unfold smallB at hs; have := of_decide_eq_true hs; omega
        clear d hs
        go_enter Tryd.func17, Tryd.ntmps17
        go_wp2_with fail
        refine C.out.mono ?_
        rintro e w' ⟨rfl, rfl⟩
        go_wp2_with fail
        refine D.out.mono ?_
        rintro e w' ⟨rfl, rfl⟩
        go_wp2
        go_ret
        exact ⟨rfl, rfl⟩
      | false =>
        rw [hs] at d
        have D := Lib.hid d
        clear d hs
        go_enter Tryd.func17, Tryd.ntmps17
        go_wp2_with fail
        refine C.out.mono ?_
        rintro e w' ⟨rfl, rfl⟩
        go_wp2_with fail
        refine D.out.mono ?_
        rintro e w' ⟨rfl, rfl⟩
        go_wp2
        go_ret
        exact ⟨rfl, rfl⟩
  all_goals
    subst h
    go_enter Tryd.func17, Tryd.ntmps17
    go_wp2
    go_ret
    exact ⟨rfl, rfl⟩
end Go.Proofs.YtfdbcjdkikmjiaaDoor
