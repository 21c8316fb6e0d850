/-
  PLAIN LAW: upper, lower and title case and the simple folding of every number, as functions on natural numbers that the kernel reckons; a number is special (it lies below 128, in a case range or in the listed orbits) or it is its own in every way. No program in sight.
-/
import Derived.Test.YtfdbcjdkikmjiaaDoorPlainTables
namespace Go.Proofs.YtfdbcjdkikmjiaaDoor.Plain
open Go.Lib

/-- unicode.To over the case ranges. -/
def toN (c r : Nat) : Nat :=
  match findC rlo rhi r caseC with
  | some x => (convertR c (r : Int) x).toNat
  | none => r
def upN (r : Nat) : Nat := bif Nat.ble r 127 then (bif Nat.ble 97 r && Nat.ble r 122 then r - 32 else r) else toN 0 r
def lowN (r : Nat) : Nat := bif Nat.ble r 127 then (bif Nat.ble 65 r && Nat.ble r 90 then r + 32 else r) else toN 1 r
def titN (r : Nat) : Nat := bif Nat.ble r 127 then (bif Nat.ble 97 r && Nat.ble r 122 then r - 32 else r) else toN 2 r

def rowNonneg (x : CaseRow) : Bool := [0, 1, 2].all fun c => decide (x.delta c > 1114111) || decide (0 ≤ (x.1 : Int) + x.delta c)
theorem rows_nonneg : (flatC caseC).all rowNonneg = true := by kernel_rfl

theorem convert_nonneg {x : CaseRow} (hx : rowNonneg x = true) {c : Nat} (hc : c < 3) {r : Nat} (h1 : x.1 ≤ r) : 0 ≤ convertR c (r : Int) x := by
  simp only [rowNonneg, List.all_cons, List.all_nil, Bool.and_true, Bool.and_eq_true, Bool.or_eq_true, decide_eq_true_eq] at hx
  obtain ⟨d0, d1, d2⟩ := hx
  have hd : x.delta c > 1114111 ∨ 0 ≤ (x.1 : Int) + x.delta c := by
    match c, hc with
    | 0, _ => exact d0
    | 1, _ => exact d1
    | 2, _ => exact d2
  unfold convertR
  split <;> omega
theorem toR_nat (c : Nat) (hc : c < 3) (r : Nat) : toR caseA c (r : Int) = ((toN c r : Nat) : Int) := by
  unfold toR toN
  rw [lookupGo_eq caseA caseC caseC_flat caseC_sorted caseA_sorted r]
  cases h : findC rlo rhi r caseC with
  | none => rfl
  | some x =>
    obtain ⟨hm, h1, _⟩ := findC_some h
    have := convert_nonneg (List.all_eq_true.1 rows_nonneg x hm) hc h1
    show convertR c (r : Int) x = (((convertR c (r : Int) x).toNat : Nat) : Int)
    omega
theorem toUpperU_nat (r : Nat) : toUpperU (r : Int) = ((upN r : Nat) : Int) := by
  unfold toUpperU upN
  rw [toR_nat 0 (by omega)]
  by_cases h : r ≤ 127
  · rw [if_pos (by omega), Nat.ble_eq_true_of_le h, cond_true]
    by_cases h2 : 97 ≤ r ∧ r ≤ 122
    · rw [if_pos (by omega), Nat.ble_eq_true_of_le h2.1, Nat.ble_eq_true_of_le h2.2, Bool.and_true, cond_true]; omega
    · rw [if_neg (by omega)]
      have : (Nat.ble 97 r && Nat.ble r 122) = false := by
        rw [Bool.and_eq_false_iff]
        by_cases h3 : 97 ≤ r
        · right; rw [← Bool.not_eq_true, Nat.ble_eq]; omega
        · left; rw [← Bool.not_eq_true, Nat.ble_eq]; omega
      rw [this, cond_false]
  · rw [if_neg (by omega)]
    have : Nat.ble r 127 = false := by rw [← Bool.not_eq_true, Nat.ble_eq]; omega
    rw [this, cond_false]
theorem toLowerU_nat (r : Nat) : toLowerU (r : Int) = ((lowN r : Nat) : Int) := by
  unfold toLowerU lowN
  rw [toR_nat 1 (by omega)]
  by_cases h : r ≤ 127
  · rw [if_pos (by omega), Nat.ble_eq_true_of_le h, cond_true]
    by_cases h2 : 65 ≤ r ∧ r ≤ 90
    · rw [if_pos (by omega), Nat.ble_eq_true_of_le h2.1, Nat.ble_eq_true_of_le h2.2, Bool.and_true, cond_true]; omega
    · rw [if_neg (by omega)]
      have : (Nat.ble 65 r && Nat.ble r 90) = false := by
        rw [Bool.and_eq_false_iff]
        by_cases h3 : 65 ≤ r
        · right; rw [← Bool.not_eq_true, Nat.ble_eq]; omega
        · left; rw [← Bool.not_eq_true, Nat.ble_eq]; omega
      rw [this, cond_false]
  · rw [if_neg (by omega)]
    have : Nat.ble r 127 = false := by rw [← Bool.not_eq_true, Nat.ble_eq]; omega
    rw [this, cond_false]
theorem toTitleU_nat (r : Nat) : toTitleU (r : Int) = ((titN r : Nat) : Int) := by
  unfold toTitleU titN
  rw [toR_nat 2 (by omega)]
  by_cases h : r ≤ 127
  · rw [if_pos (by omega), Nat.ble_eq_true_of_le h, cond_true]
    by_cases h2 : 97 ≤ r ∧ r ≤ 122
    · rw [if_pos (by omega), Nat.ble_eq_true_of_le h2.1, Nat.ble_eq_true_of_le h2.2, Bool.and_true, cond_true]; omega
    · rw [if_neg (by omega)]
      have : (Nat.ble 97 r && Nat.ble r 122) = false := by
        rw [Bool.and_eq_false_iff]
        by_cases h3 : 97 ≤ r
        · right; rw [← Bool.not_eq_true, Nat.ble_eq]; omega
        · left; rw [← Bool.not_eq_true, Nat.ble_eq]; omega
      rw [this, cond_false]
  · rw [if_neg (by omega)]
    have : Nat.ble r 127 = false := by rw [← Bool.not_eq_true, Nat.ble_eq]; omega
    rw [this, cond_false]
theorem toUpperU_neg {r : Int} (h : r < 0) : toUpperU r = r := by unfold toUpperU; rw [if_pos (by omega), if_neg (by omega)]
theorem toLowerU_neg {r : Int} (h : r < 0) : toLowerU r = r := by unfold toLowerU; rw [if_pos (by omega), if_neg (by omega)]
theorem toTitleU_neg {r : Int} (h : r < 0) : toTitleU r = r := by unfold toTitleU; rw [if_pos (by omega), if_neg (by omega)]

/-- unicode.SimpleFold at a natural number. -/
def foldAscii (r : Nat) : Nat :=
  bif Nat.beq r 107 then 8490 else bif Nat.beq r 115 then 383
  else bif Nat.ble 65 r && Nat.ble r 90 then r + 32 else bif Nat.ble 97 r && Nat.ble r 122 then r - 32 else r
def foldCase (r : Nat) : Nat :=
  match findC rlo rhi r caseC with
  | some x => bif Nat.beq (convertR 1 (r : Int) x).toNat r then (convertR 0 (r : Int) x).toNat else (convertR 1 (r : Int) x).toNat
  | none => r
def foldN (r : Nat) : Nat :=
  bif Nat.ble r 127 then foldAscii r
  else match findC Prod.fst Prod.fst r orbitC with
    | some p => p.2
    | none => foldCase r

/-! ### every number is special, or its own -/
def allR (Q : Nat → Bool) : Nat → Nat → Bool
  | _, 0 => true
  | lo, n + 1 => Q lo && allR Q (lo + 1) n
theorem allR_of {Q : Nat → Bool} : ∀ {n lo : Nat}, allR Q lo n = true → ∀ r, lo ≤ r → r < lo + n → Q r = true
  | 0, _, _, _, _, _ => by omega
  | n + 1, lo, h, r, h1, h2 => by
    simp only [allR, Bool.and_eq_true] at h
    by_cases e : r = lo
    · subst e; exact h.1
    · exact allR_of h.2 r (by omega) (by omega)
def allRows (Q : Nat → Bool) : List CaseRow → Bool
  | [] => true
  | x :: l => allR Q x.1 (x.2.1 + 1 - x.1) && allRows Q l
theorem allRows_of {Q : Nat → Bool} : ∀ {l : List CaseRow}, allRows Q l = true → ∀ x ∈ l, ∀ r, x.1 ≤ r → r ≤ x.2.1 → Q r = true
  | [], _, _, hx, _, _, _ => by cases hx
  | y :: l, h, x, hx, r, h1, h2 => by
    simp only [allRows, Bool.and_eq_true] at h
    rcases List.mem_cons.1 hx with rfl | hx
    · exact allR_of h.1 r h1 (by omega)
    · exact allRows_of h.2 x hx r h1 h2
def specAll (Q : Nat → Bool) : Bool := allR Q 0 128 && (allRows Q (flatC caseC) && orbitL.all fun p => Q p.1)
/-- A number that is not special: in no case range, in no listed orbit, beyond ASCII. -/
def Own (r : Nat) : Prop := 127 < r ∧ findC rlo rhi r caseC = none ∧ findC Prod.fst Prod.fst r orbitC = none
theorem special {Q : Nat → Bool} (h : specAll Q = true) (r : Nat) : Q r = true ∨ Own r := by
  simp only [specAll, Bool.and_eq_true] at h
  obtain ⟨h1, h2, h3⟩ := h
  by_cases ha : r < 128
  · exact .inl (allR_of h1 r (Nat.zero_le _) (by omega))
  · cases hc : findC rlo rhi r caseC with
    | some x =>
      obtain ⟨hm, hl, hh⟩ := findC_some hc
      exact .inl (allRows_of h2 x hm r hl hh)
    | none =>
      cases ho : findC Prod.fst Prod.fst r orbitC with
      | some p =>
        obtain ⟨hm, hl, hh⟩ := findC_some ho
        rw [orbitC_flat] at hm
        have := List.all_eq_true.1 h3 p hm
        have e : p.1 = r := by omega
        rw [e] at this
        exact .inl this
      | none => exact .inr ⟨by omega, hc, ho⟩
theorem Own.up {r : Nat} (h : Own r) : upN r = r := by
  have : Nat.ble r 127 = false := by rw [← Bool.not_eq_true, Nat.ble_eq]; have := h.1; omega
  simp [upN, toN, this, h.2.1]
theorem Own.low {r : Nat} (h : Own r) : lowN r = r := by
  have : Nat.ble r 127 = false := by rw [← Bool.not_eq_true, Nat.ble_eq]; have := h.1; omega
  simp [lowN, toN, this, h.2.1]
theorem Own.tit {r : Nat} (h : Own r) : titN r = r := by
  have : Nat.ble r 127 = false := by rw [← Bool.not_eq_true, Nat.ble_eq]; have := h.1; omega
  simp [titN, toN, this, h.2.1]
theorem Own.fold {r : Nat} (h : Own r) : foldN r = r := by
  have : Nat.ble r 127 = false := by rw [← Bool.not_eq_true, Nat.ble_eq]; have := h.1; omega
  simp [foldN, foldCase, this, h.2.1, h.2.2]
end Go.Proofs.YtfdbcjdkikmjiaaDoor.Plain
