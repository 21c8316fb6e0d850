/-
  WALKS of the laws that hold the case mappings of the first 256 numbers against the reference.
-/
import Derived.Test.YtlpdnaifnnfpjaaDoorRows
import Derived.Test.YtlpdnaifnnfpjaaDoorCase
import Derived.Test.YtlpdnaifnnfpjaaDoorSpecCase
import Derived.Test.YtlpdnaifnnfpjaaDoorPlainCase
namespace Go.Proofs.YtlpdnaifnnfpjaaDoor
open Go.RowKit Go.Lib
set_option linter.unusedVariables false

theorem up_latin : ((List.range 256).all fun r => Nat.beq (Plain.upN r) (upS (r : Int)).toNat && decide (0 ≤ upS (r : Int))) = true := by kernel_rfl
theorem low_latin : ((List.range 256).all fun r => Nat.beq (Plain.lowN r) (lowS (r : Int)).toNat && decide (0 ≤ lowS (r : Int))) = true := by kernel_rfl
theorem tit_latin : ((List.range 256).all fun r => Nat.beq (Plain.titN r) (upS (r : Int)).toNat && decide (0 ≤ upS (r : Int))) = true := by kernel_rfl
theorem nat_of {f : Nat → Nat} {g : Int → Int} (h : ((List.range 256).all fun r => Nat.beq (f r) (g (r : Int)).toNat && decide (0 ≤ g (r : Int))) = true) (r : Nat) (hr : r ≤ 255) : ((f r : Nat) : Int) = g (r : Int) := by
  have := List.all_eq_true.1 h r (List.mem_range.2 (by omega))
  simp only [Bool.and_eq_true, decide_eq_true_eq] at this
  have e := Nat.eq_of_beq_eq_true this.1
  omega
theorem up_eq (r : Int) (h0 : 0 ≤ r) (h1 : r ≤ 255) : toUpperU r = upS r := by
  obtain ⟨n, rfl⟩ : ∃ n : Nat, r = n := ⟨r.toNat, by omega⟩
  rw [Plain.toUpperU_nat]; exact nat_of up_latin n (by omega)
theorem low_eq (r : Int) (h0 : 0 ≤ r) (h1 : r ≤ 255) : toLowerU r = lowS r := by
  obtain ⟨n, rfl⟩ : ∃ n : Nat, r = n := ⟨r.toNat, by omega⟩
  rw [Plain.toLowerU_nat]; exact nat_of low_latin n (by omega)
theorem tit_eq (r : Int) (h0 : 0 ≤ r) (h1 : r ≤ 255) : toTitleU r = upS r := by
  obtain ⟨n, rfl⟩ : ∃ n : Nat, r = n := ⟨r.toNat, by omega⟩
  rw [Plain.toTitleU_nat]; exact nat_of tit_latin n (by omega)

theorem fnExactToUpper_walk (r : Int) (w : World) (h0 : -2147483648 ≤ r) (h1 : r ≤ 2147483647) (hL : laidMet Tryd.prog Rows.fnExactToUpperRow.laid w) :
    Calls Tryd.prog 7 #[.int .i32 r] w fun e w' => e = .returned (.bool true) ∧ Below w.heap.size w w' := by
  have HV := Lib.hid (caseVar_of_laid hL (.head _))
  clear hL
  by_cases h : 0 ≤ r ∧ r ≤ 255
  · have cl := latin_any r w
    rw [show latB r = true from decide_eq_true h] at cl
    have CL := Lib.hid cl
    have HE := Lib.hid (up_eq r h.1 h.2)
    obtain ⟨h2, h3⟩ := h
    clear cl
    go_enter Tryd.func7, Tryd.ntmps7
    go_wp2_with fail
    refine CL.out.mono ?_
    rintro e w' ⟨rfl, rfl⟩
    go_wp2_with fail
    refine (implToUpper_any r w HV.out).mono ?_
    rintro e w' ⟨rfl, q, rfl⟩
    go_wp2_with fail
    refine (toUpperS_any r _ h2 h3).mono ?_
    rintro e w' ⟨rfl, rfl⟩
    rw [HE.out]
    go_wp2
    go_ret
    exact ⟨ret_bool (by simp), bel_drewN (Below.refl _ _) q⟩
  · have cl := latin_any r w
    rw [show latB r = false from decide_eq_false h] at cl
    have CL := Lib.hid cl
    clear cl h
    go_enter Tryd.func7, Tryd.ntmps7
    go_wp2_with fail
    refine CL.out.mono ?_
    rintro e w' ⟨rfl, rfl⟩
    go_wp2
    go_ret
    exact ⟨rfl, Below.refl _ _⟩
theorem fnExactToLower_walk (r : Int) (w : World) (h0 : -2147483648 ≤ r) (h1 : r ≤ 2147483647) (hL : laidMet Tryd.prog Rows.fnExactToLowerRow.laid w) :
    Calls Tryd.prog 5 #[.int .i32 r] w fun e w' => e = .returned (.bool true) ∧ Below w.heap.size w w' := by
  have HV := Lib.hid (caseVar_of_laid hL (.head _))
  clear hL
  by_cases h : 0 ≤ r ∧ r ≤ 255
  · have cl := latin_any r w
    rw [show latB r = true from decide_eq_true h] at cl
    have CL := Lib.hid cl
    have HE := Lib.hid (low_eq r h.1 h.2)
    obtain ⟨h2, h3⟩ := h
    clear cl
    go_enter Tryd.func5, Tryd.ntmps5
    go_wp2_with fail
    refine CL.out.mono ?_
    rintro e w' ⟨rfl, rfl⟩
    go_wp2_with fail
    refine (implToLower_any r w HV.out).mono ?_
    rintro e w' ⟨rfl, q, rfl⟩
    go_wp2_with fail
    refine (toLowerS_any r _ h2 h3).mono ?_
    rintro e w' ⟨rfl, rfl⟩
    rw [HE.out]
    go_wp2
    go_ret
    exact ⟨ret_bool (by simp), bel_drewN (Below.refl _ _) q⟩
  · have cl := latin_any r w
    rw [show latB r = false from decide_eq_false h] at cl
    have CL := Lib.hid cl
    clear cl h
    go_enter Tryd.func5, Tryd.ntmps5
    go_wp2_with fail
    refine CL.out.mono ?_
    rintro e w' ⟨rfl, rfl⟩
    go_wp2
    go_ret
    exact ⟨rfl, Below.refl _ _⟩
theorem fnExactToTitle_walk (r : Int) (w : World) (h0 : -2147483648 ≤ r) (h1 : r ≤ 2147483647) (hL : laidMet Tryd.prog Rows.fnExactToTitleRow.laid w) :
    Calls Tryd.prog 6 #[.int .i32 r] w fun e w' => e = .returned (.bool true) ∧ Below w.heap.size w w' := by
  have HV := Lib.hid (caseVar_of_laid hL (.head _))
  clear hL
  by_cases h : 0 ≤ r ∧ r ≤ 255
  · have cl := latin_any r w
    rw [show latB r = true from decide_eq_true h] at cl
    have CL := Lib.hid cl
    have HE := Lib.hid (tit_eq r h.1 h.2)
    obtain ⟨h2, h3⟩ := h
    clear cl
    go_enter Tryd.func6, Tryd.ntmps6
    go_wp2_with fail
    refine CL.out.mono ?_
    rintro e w' ⟨rfl, rfl⟩
    go_wp2_with fail
    refine (implToTitle_any r w HV.out).mono ?_
    rintro e w' ⟨rfl, q, rfl⟩
    go_wp2_with fail
    refine (toTitleS_any r _ h2 h3).mono ?_
    rintro e w' ⟨rfl, rfl⟩
    rw [HE.out]
    go_wp2
    go_ret
    exact ⟨ret_bool (by simp), bel_drewN (Below.refl _ _) q⟩
  · have cl := latin_any r w
    rw [show latB r = false from decide_eq_false h] at cl
    have CL := Lib.hid cl
    clear cl h
    go_enter Tryd.func6, Tryd.ntmps6
    go_wp2_with fail
    refine CL.out.mono ?_
    rintro e w' ⟨rfl, rfl⟩
    go_wp2
    go_ret
    exact ⟨rfl, Below.refl _ _⟩
end Go.Proofs.YtlpdnaifnnfpjaaDoor
