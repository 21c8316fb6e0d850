/-
  PLAIN LAWS of the simple folding: folded again and again, four times at most, a number comes back; where it falls it goes to the least of its kin and rises from there.
-/
import Derived.Test.YtfdbcjdkikmjiaaDoorPlainFar
namespace Go.Proofs.YtfdbcjdkikmjiaaDoor.Plain
open Go.Lib

/-- unicode.SimpleFold at every number. -/
def foldI (r : Int) : Int := if 0 ≤ r ∧ r ≤ 1114111 then ((foldN r.toNat : Nat) : Int) else r
/-- Folded n times. -/
def it (r : Int) : Nat → Int
  | 0 => r
  | n + 1 => foldI (it r n)
def itN (r : Nat) : Nat → Nat
  | 0 => r
  | n + 1 => foldN (itN r n)
theorem foldN_le_at : specAll (fun r => Nat.ble (foldN r) 1114111) = true := by kernel_rfl
theorem foldN_le {r : Nat} (h : r ≤ 1114111) : foldN r ≤ 1114111 := by
  rcases special foldN_le_at r with hq | ho
  · exact Nat.le_of_ble_eq_true hq
  · rw [ho.fold]; exact h
theorem it_nat {k : Nat} (h : k ≤ 1114111) : ∀ n, it (k : Int) n = ((itN k n : Nat) : Int) ∧ itN k n ≤ 1114111
  | 0 => ⟨rfl, h⟩
  | n + 1 => by
    obtain ⟨h1, h2⟩ := it_nat h n
    refine ⟨?_, foldN_le h2⟩
    show foldI (it (k : Int) n) = _
    rw [h1]
    unfold foldI
    rw [if_pos (by omega), Int.toNat_natCast]
    rfl
theorem it_far {r : Int} (h : ¬ (0 ≤ r ∧ r ≤ 1114111)) : ∀ n, it r n = r
  | 0 => rfl
  | n + 1 => by
    show foldI (it r n) = r
    rw [it_far h n]
    unfold foldI
    rw [if_neg h]
theorem itN_own {k : Nat} (h : Own k) : ∀ n, itN k n = k
  | 0 => rfl
  | n + 1 => by
    show foldN (itN k n) = k
    rw [itN_own h n, h.fold]
/-- A law of r and its first four foldings, reckoned at every special number, holds at every number. -/
theorem it_law {Q : Nat → Bool} (hq : specAll Q = true) {P : Int → Prop} (hs : ∀ k : Nat, k ≤ 1114111 → Q k = true → P (k : Int)) (ho : ∀ k : Nat, k ≤ 1114111 → Own k → P (k : Int)) (hf : ∀ r : Int, ¬ (0 ≤ r ∧ r ≤ 1114111) → P r) (r : Int) : P r := by
  by_cases h : 0 ≤ r ∧ r ≤ 1114111
  · obtain ⟨k, rfl⟩ : ∃ k : Nat, r = k := ⟨r.toNat, by omega⟩
    rcases special hq k with h1 | h1
    · exact hs k (by omega) h1
    · exact ho k (by omega) h1
  · exact hf r h
theorem turn_at : specAll (fun r => Nat.beq (itN r 1) r || (Nat.beq (itN r 2) r || (Nat.beq (itN r 3) r || Nat.beq (itN r 4) r))) = true := by kernel_rfl
theorem turn (r : Int) : it r 1 = r ∨ it r 2 = r ∨ it r 3 = r ∨ it r 4 = r := by
  refine it_law turn_at (P := fun r => it r 1 = r ∨ it r 2 = r ∨ it r 3 = r ∨ it r 4 = r) (fun k hk h => ?_) (fun k hk h => ?_) (fun r h => .inl (it_far h 1)) r
  · simp only [Bool.or_eq_true, Nat.beq_eq] at h
    rw [(it_nat hk 1).1, (it_nat hk 2).1, (it_nat hk 3).1, (it_nat hk 4).1]
    omega
  · left
    rw [(it_nat hk 1).1, itN_own h]
/-- The length of the round that a number goes. -/
theorem period (r : Int) : ∃ p, 1 ≤ p ∧ p ≤ 4 ∧ it r p = r ∧ ∀ j, 1 ≤ j → j < p → it r j ≠ r := by
  by_cases h1 : it r 1 = r
  · exact ⟨1, by omega, by omega, h1, fun j _ _ => by omega⟩
  · by_cases h2 : it r 2 = r
    · exact ⟨2, by omega, by omega, h2, fun j a b => by obtain rfl : j = 1 := by omega
                                                        exact h1⟩
    · by_cases h3 : it r 3 = r
      · exact ⟨3, by omega, by omega, h3, fun j a b => by
          rcases (by omega : j = 1 ∨ j = 2) with rfl | rfl
          · exact h1
          · exact h2⟩
      · have h4 : it r 4 = r := by
          rcases turn r with h | h | h | h
          · exact absurd h h1
          · exact absurd h h2
          · exact absurd h h3
          · exact h
        exact ⟨4, by omega, by omega, h4, fun j a b => by
          rcases (by omega : j = 1 ∨ j = 2 ∨ j = 3) with rfl | rfl | rfl
          · exact h1
          · exact h2
          · exact h3⟩
theorem it_add (r : Int) (m : Nat) : ∀ n, it r (m + n) = it (it r m) n
  | 0 => rfl
  | n + 1 => by
    show foldI (it r (m + n)) = foldI (it (it r m) n)
    rw [it_add r m n]
/-- Two numbers of one round are folded to one only if they are one. -/
theorem apart {r : Int} {p : Nat} (hp : 1 ≤ p) (h : it r p = r) (hm : ∀ j, 1 ≤ j → j < p → it r j ≠ r) (k : Nat) (hk : k + 1 < p) : it r (k + 2) ≠ it r 1 := by
  intro e
  have e1 : it r (k + 2 + (p - 1)) = it r (1 + (p - 1)) := by rw [it_add r (k + 2) (p - 1), it_add r 1 (p - 1), e]
  rw [show 1 + (p - 1) = p by omega, h, show k + 2 + (p - 1) = p + (k + 1) by omega, it_add r p (k + 1), h] at e1
  exact hm (k + 1) (by omega) hk e1
theorem foldI_it (r : Int) (n : Nat) : foldI (it r n) = it r (n + 1) := rfl
end Go.Proofs.YtfdbcjdkikmjiaaDoor.Plain
