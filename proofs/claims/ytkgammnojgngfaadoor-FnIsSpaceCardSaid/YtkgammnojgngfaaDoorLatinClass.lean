/-
  PLAIN: the classes of the first 256 numbers, and the spaces, are the reference's.
-/
import Derived.Test.YtkgammnojgngfaaDoorSpecClass
import Derived.Lib.IsU
import Derived.Lib.SpaceR
import Derived.Shelf.Unicode.IsSpaceAny
namespace Go.Proofs.YtkgammnojgngfaaDoor
open Go.Lib
theorem digit_latin : ((List.range 256).all fun k => isDigitU (k : Int) == digB (k : Int)) = true := by kernel_rfl
theorem letter_latin : ((List.range 256).all fun k => isLetterU (k : Int) == letB (k : Int)) = true := by kernel_rfl
theorem upper_latin : ((List.range 256).all fun k => isUpperU (k : Int) == capB (k : Int)) = true := by kernel_rfl
theorem class_of {f g : Int → Bool} (h : ((List.range 256).all fun k => f (k : Int) == g (k : Int)) = true) (r : Int) (h0 : 0 ≤ r) (h1 : r ≤ 255) : f r = g r := by
  obtain ⟨k, rfl⟩ : ∃ k : Nat, r = k := ⟨r.toNat, by omega⟩
  exact eq_of_beq (List.all_eq_true.1 h k (List.mem_range.2 (by omega)))
theorem isDigit_eq (r : Int) (h0 : 0 ≤ r) (h1 : r ≤ 255) : isDigitU r = digB r := class_of digit_latin r h0 h1
theorem isLetter_eq (r : Int) (h0 : 0 ≤ r) (h1 : r ≤ 255) : isLetterU r = letB r := class_of letter_latin r h0 h1
theorem isUpper_eq (r : Int) (h0 : 0 ≤ r) (h1 : r ≤ 255) : isUpperU r = capB r := class_of upper_latin r h0 h1
theorem isSpace_eq (r : Int) : isSpaceZ r = spB r := by
  unfold isSpaceZ spB
  by_cases h : 0 ≤ r
  · rw [if_pos h]
    by_cases hp : IsSpaceP r.toNat
    · rw [isSpaceR_true hp]
      symm
      apply decide_eq_true
      unfold IsSpaceP at hp
      omega
    · rw [isSpaceR_false hp]
      symm
      apply decide_eq_false
      unfold IsSpaceP at hp
      omega
  · rw [if_neg h]
    symm
    apply decide_eq_false
    omega
theorem ret_beq {a b : Bool} (h : a = b) : Ending.returned (.bool (a == b)) = .returned (.bool true) := by rw [h]; simp
end Go.Proofs.YtkgammnojgngfaaDoor
