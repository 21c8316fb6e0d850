/-
  PLAIN LAW: no special number is 'no character for ever', nor what it is mapped or folded to.
-/
import Derived.Test.YtfdbcjdkikmjiaaDoorPlainFold
import Derived.Test.YtfdbcjdkikmjiaaDoorSpecNothing
namespace Go.Proofs.YtfdbcjdkikmjiaaDoor
open Go.Lib

/-- A code point that is a character, at a natural number. -/
def someN (r : Nat) : Bool := Nat.ble r 1114111 && !(nothB (r : Int))
theorem some_at : Plain.specAll (fun r => someN r && (someN (Plain.upN r) && (someN (Plain.lowN r) && (someN (Plain.titN r) && someN (Plain.foldN r))))) = true := by kernel_rfl
theorem nothing_own {r : Int} (hv : 0 ≤ r ∧ r ≤ 1114111) (hn : nothB r = true) : toUpperU r = r ∧ toLowerU r = r ∧ toTitleU r = r ∧ Plain.foldI r = r := by
  obtain ⟨k, rfl⟩ : ∃ k : Nat, r = k := ⟨r.toNat, by omega⟩
  rcases Plain.special some_at k with h | h
  · simp only [someN, Bool.and_eq_true, Bool.not_eq_true'] at h
    rw [h.1.2] at hn
    cases hn
  · refine ⟨by rw [Plain.toUpperU_nat, h.up], by rw [Plain.toLowerU_nat, h.low], by rw [Plain.toTitleU_nat, h.tit], ?_⟩
    unfold Plain.foldI
    rw [if_pos (by omega), Int.toNat_natCast, h.fold]
/-- What a number is mapped to is a code point, and a character, exactly if the number is. -/
def Alike (r m : Int) : Prop := validB m = validB r ∧ nothB m = nothB r
theorem alike_some {k m : Nat} (h : someN k = true) (h' : someN m = true) : Alike (k : Int) (m : Int) := by
  simp only [someN, Bool.and_eq_true, Bool.not_eq_true', Nat.ble_eq] at h h'
  refine ⟨?_, by rw [h.2, h'.2]⟩
  rw [show validB (k : Int) = true from decide_eq_true (by omega), show validB (m : Int) = true from decide_eq_true (by omega)]
theorem alike_same {r m : Int} (h : m = r) : Alike r m := by rw [h]; exact ⟨rfl, rfl⟩
theorem map_alike (r : Int) : Alike r (toUpperU r) ∧ Alike r (toLowerU r) ∧ Alike r (toTitleU r) ∧ Alike r (Plain.foldI r) := by
  by_cases hv : 0 ≤ r ∧ r ≤ 1114111
  · obtain ⟨k, rfl⟩ : ∃ k : Nat, r = k := ⟨r.toNat, by omega⟩
    have ef : Plain.foldI (k : Int) = ((Plain.foldN k : Nat) : Int) := by unfold Plain.foldI; rw [if_pos hv, Int.toNat_natCast]
    rw [Plain.toUpperU_nat, Plain.toLowerU_nat, Plain.toTitleU_nat, ef]
    rcases Plain.special some_at k with h | h
    · simp only [Bool.and_eq_true] at h
      obtain ⟨h0, h1, h2, h3, h4⟩ := h
      exact ⟨alike_some h0 h1, alike_some h0 h2, alike_some h0 h3, alike_some h0 h4⟩
    · rw [h.up, h.low, h.tit, h.fold]
      exact ⟨⟨rfl, rfl⟩, ⟨rfl, rfl⟩, ⟨rfl, rfl⟩, ⟨rfl, rfl⟩⟩
  · exact ⟨alike_same (Plain.far_up hv), alike_same (Plain.far_low hv), alike_same (Plain.far_tit hv), alike_same (by unfold Plain.foldI; rw [if_neg hv])⟩
end Go.Proofs.YtfdbcjdkikmjiaaDoor
