/-
  PLAIN: the case mappings of the first 256 numbers are the reference's.
-/
import Derived.Test.YtgbcidkplanapaaDoorSpecBase
import Derived.Lib.CaseU
import Derived.Test.YtgbcidkplanapaaDoorPlainCase
namespace Go.Proofs.YtgbcidkplanapaaDoor
open Go.RowKit Go.Lib
set_option linter.unusedVariables false

theorem up_latin : ((List.range 256).all fun r => Nat.beq (Plain.upN r) (upS (r : Int)).toNat && decide (0 ≤ upS (r : Int))) = true := by kernel_rfl
theorem low_latin : ((List.range 256).all fun r => Nat.beq (Plain.lowN r) (lowS (r : Int)).toNat && decide (0 ≤ lowS (r : Int))) = true := by kernel_rfl
theorem tit_latin : ((List.range 256).all fun r => Nat.beq (Plain.titN r) (upS (r : Int)).toNat && decide (0 ≤ upS (r : Int))) = true := by kernel_rfl
theorem nat_of {f : Nat → Nat} {g : Int → Int} (h : ((List.range 256).all fun r => Nat.beq (f r) (g (r : Int)).toNat && decide (0 ≤ g (r : Int))) = true) (r : Nat) (hr : r ≤ 255) : ((f r : Nat) : Int) = g (r : Int) := by
  have := List.all_eq_true.1 h r (List.mem_range.2 (by omega))
  simp only [Bool.and_eq_true, decide_eq_true_eq] at this
  have e := Nat.eq_of_beq_eq_true this.1
  omega
theorem up_eq (r : Int) (h0 : 0 ≤ r) (h1 : r ≤ 255) : toUpperU r = upS r := by
  obtain ⟨n, rfl⟩ : ∃ n : Nat, r = n := ⟨r.toNat, by omega⟩
  rw [Plain.toUpperU_nat]; exact nat_of up_latin n (by omega)
theorem low_eq (r : Int) (h0 : 0 ≤ r) (h1 : r ≤ 255) : toLowerU r = lowS r := by
  obtain ⟨n, rfl⟩ : ∃ n : Nat, r = n := ⟨r.toNat, by omega⟩
  rw [Plain.toLowerU_nat]; exact nat_of low_latin n (by omega)
theorem tit_eq (r : Int) (h0 : 0 ≤ r) (h1 : r ≤ 255) : toTitleU r = upS r := by
  obtain ⟨n, rfl⟩ : ∃ n : Nat, r = n := ⟨r.toNat, by omega⟩
  rw [Plain.toTitleU_nat]; exact nat_of tit_latin n (by omega)

end Go.Proofs.YtgbcidkplanapaaDoor
