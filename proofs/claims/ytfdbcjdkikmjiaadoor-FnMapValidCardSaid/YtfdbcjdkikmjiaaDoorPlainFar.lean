/-
  PLAIN LAW: a number that is no code point is its own in every way.
-/
import Derived.Test.YtfdbcjdkikmjiaaDoorPlainCase
namespace Go.Proofs.YtfdbcjdkikmjiaaDoor.Plain
open Go.Lib
theorem rows_top : topL rhi 1114111 (flatC caseC) = true := by kernel_rfl
theorem orbit_top : topL Prod.fst 1114111 orbitL = true := by kernel_rfl
theorem far_own {r : Nat} (h : 1114111 < r) : Own r := by
  refine ⟨by omega, ?_, ?_⟩
  · cases hf : findC rlo rhi r caseC with
    | none => rfl
    | some x =>
      obtain ⟨hm, _, hh⟩ := findC_some hf
      have := topL_le rows_top x hm
      omega
  · cases hf : findC Prod.fst Prod.fst r orbitC with
    | none => rfl
    | some x =>
      obtain ⟨hm, _, hh⟩ := findC_some hf
      rw [orbitC_flat] at hm
      have := topL_le orbit_top x hm
      omega
theorem far_up {r : Int} (h : ¬ (0 ≤ r ∧ r ≤ 1114111)) : toUpperU r = r := by
  by_cases hn : r < 0
  · exact toUpperU_neg hn
  · obtain ⟨k, rfl⟩ : ∃ k : Nat, r = k := ⟨r.toNat, by omega⟩
    rw [toUpperU_nat, (far_own (r := k) (by omega)).up]
theorem far_low {r : Int} (h : ¬ (0 ≤ r ∧ r ≤ 1114111)) : toLowerU r = r := by
  by_cases hn : r < 0
  · exact toLowerU_neg hn
  · obtain ⟨k, rfl⟩ : ∃ k : Nat, r = k := ⟨r.toNat, by omega⟩
    rw [toLowerU_nat, (far_own (r := k) (by omega)).low]
theorem far_tit {r : Int} (h : ¬ (0 ≤ r ∧ r ≤ 1114111)) : toTitleU r = r := by
  by_cases hn : r < 0
  · exact toTitleU_neg hn
  · obtain ⟨k, rfl⟩ : ∃ k : Nat, r = k := ⟨r.toNat, by omega⟩
    rw [toTitleU_nat, (far_own (r := k) (by omega)).tit]
end Go.Proofs.YtfdbcjdkikmjiaaDoor.Plain
