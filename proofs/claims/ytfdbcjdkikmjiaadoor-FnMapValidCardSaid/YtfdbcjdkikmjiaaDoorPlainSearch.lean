/-
  PLAIN LAW: the searches of package unicode (the binary search over case ranges, the linear and the binary search over ranges) find the row that holds the number, where the rows are in order. No program in sight.
-/
import Derived.Lib.CaseU
import Derived.Lib.IsU
namespace Go.Proofs.YtfdbcjdkikmjiaaDoor.Plain
open Go.Lib

/-! ### lists of rows in chunks: a quick look-up for the kernel -/

/-- The first row whose upper end is not below r, if it holds r. -/
def findL {α : Type} (lo hi : α → Nat) (r : Nat) : List α → Option α
  | [] => none
  | x :: l => bif Nat.ble r (hi x) then (bif Nat.ble (lo x) r then some x else none) else findL lo hi r l
def findC {α : Type} (lo hi : α → Nat) (r : Nat) : List (Nat × List α) → Option α
  | [] => none
  | c :: l => bif Nat.ble r c.1 then findL lo hi r c.2 else findC lo hi r l
/-- Rows in order, above b. -/
def sortedL {α : Type} (lo hi : α → Nat) : Nat → List α → Bool
  | _, [] => true
  | b, x :: l => Nat.ble b (lo x) && (Nat.ble (lo x) (hi x) && sortedL lo hi (hi x + 1) l)
/-- Every row's upper end is at most t. -/
def topL {α : Type} (hi : α → Nat) (t : Nat) : List α → Bool
  | [] => true
  | x :: l => Nat.ble (hi x) t && topL hi t l
def sortedC {α : Type} (lo hi : α → Nat) : Nat → List (Nat × List α) → Bool
  | _, [] => true
  | b, c :: l => sortedL lo hi b c.2 && (topL hi c.1 c.2 && (Nat.ble b (c.1 + 1) && sortedC lo hi (c.1 + 1) l))
def flatC {α : Type} : List (Nat × List α) → List α
  | [] => []
  | c :: l => c.2 ++ flatC l

section
variable {α : Type} {lo hi : α → Nat}

theorem sortedL_low : ∀ {b : Nat} {l : List α}, sortedL lo hi b l = true → ∀ x ∈ l, b ≤ lo x
  | _, [], _, _, h => by cases h
  | b, y :: l, h, x, hx => by
    simp only [sortedL, Bool.and_eq_true, Nat.ble_eq] at h
    rcases List.mem_cons.1 hx with rfl | hx
    · exact h.1
    · have := sortedL_low h.2.2 x hx
      omega
theorem topL_le : ∀ {t : Nat} {l : List α}, topL hi t l = true → ∀ x ∈ l, hi x ≤ t
  | _, [], _, _, h => by cases h
  | t, y :: l, h, x, hx => by
    simp only [topL, Bool.and_eq_true, Nat.ble_eq] at h
    rcases List.mem_cons.1 hx with rfl | hx
    · exact h.1
    · exact topL_le h.2 x hx
theorem sortedC_low : ∀ {b : Nat} {l : List (Nat × List α)}, sortedC lo hi b l = true → ∀ x ∈ flatC l, b ≤ lo x
  | _, [], _, _, h => by cases h
  | b, c :: l, h, x, hx => by
    simp only [sortedC, Bool.and_eq_true, Nat.ble_eq] at h
    rcases List.mem_append.1 hx with hx | hx
    · exact sortedL_low h.1 x hx
    · have := sortedC_low h.2.2.2 x hx
      omega
theorem findL_some {r : Nat} : ∀ {l : List α} {x : α}, findL lo hi r l = some x → x ∈ l ∧ lo x ≤ r ∧ r ≤ hi x
  | [], _, h => by cases h
  | y :: l, x, h => by
    unfold findL at h
    cases h1 : Nat.ble r (hi y) with
    | true =>
      rw [h1] at h
      cases h2 : Nat.ble (lo y) r with
      | true =>
        rw [h2] at h
        obtain rfl : y = x := by simpa using h
        exact ⟨List.mem_cons_self .., Nat.le_of_ble_eq_true h2, Nat.le_of_ble_eq_true h1⟩
      | false => rw [h2] at h; cases h
    | false =>
      rw [h1] at h
      have := findL_some (l := l) (x := x) h
      exact ⟨List.mem_cons_of_mem _ this.1, this.2⟩
theorem findL_none {r : Nat} : ∀ {b : Nat} {l : List α}, sortedL lo hi b l = true → findL lo hi r l = none → ∀ x ∈ l, ¬ (lo x ≤ r ∧ r ≤ hi x)
  | _, [], _, _, _, h => by cases h
  | b, y :: l, hs, h, x, hx => by
    have hs' := hs
    simp only [sortedL, Bool.and_eq_true, Nat.ble_eq] at hs
    unfold findL at h
    cases h1 : Nat.ble r (hi y) with
    | true =>
      rw [h1] at h
      cases h2 : Nat.ble (lo y) r with
      | true => rw [h2] at h; cases h
      | false =>
        have h2' : ¬ lo y ≤ r := fun hc => by rw [Nat.ble_eq_true_of_le hc] at h2; cases h2
        have := sortedL_low (b := lo y) (l := y :: l) (by simp only [sortedL, Bool.and_eq_true, Nat.ble_eq]; exact ⟨Nat.le_refl _, hs.2⟩) x hx
        omega
    | false =>
      rw [h1] at h
      have h1' : ¬ r ≤ hi y := fun hc => by rw [Nat.ble_eq_true_of_le hc] at h1; cases h1
      rcases List.mem_cons.1 hx with rfl | hx
      · omega
      · exact findL_none hs.2.2 h x hx
theorem findC_some {r : Nat} : ∀ {l : List (Nat × List α)} {x : α}, findC lo hi r l = some x → x ∈ flatC l ∧ lo x ≤ r ∧ r ≤ hi x
  | [], _, h => by cases h
  | c :: l, x, h => by
    unfold findC at h
    cases h1 : Nat.ble r c.1 with
    | true =>
      rw [h1] at h
      have := findL_some (l := c.2) (x := x) h
      exact ⟨List.mem_append.2 (.inl this.1), this.2⟩
    | false =>
      rw [h1] at h
      have := findC_some (l := l) (x := x) h
      exact ⟨List.mem_append.2 (.inr this.1), this.2⟩
theorem findC_none {r : Nat} : ∀ {b : Nat} {l : List (Nat × List α)}, sortedC lo hi b l = true → findC lo hi r l = none → ∀ x ∈ flatC l, ¬ (lo x ≤ r ∧ r ≤ hi x)
  | _, [], _, _, _, h => by cases h
  | b, c :: l, hs, h, x, hx => by
    simp only [sortedC, Bool.and_eq_true, Nat.ble_eq] at hs
    unfold findC at h
    cases h1 : Nat.ble r c.1 with
    | true =>
      rw [h1] at h
      have h1' : r ≤ c.1 := Nat.le_of_ble_eq_true h1
      rcases List.mem_append.1 hx with hx | hx
      · exact findL_none hs.1 h x hx
      · have := sortedC_low hs.2.2.2 x hx
        omega
    | false =>
      rw [h1] at h
      have h1' : ¬ r ≤ c.1 := fun hc => by rw [Nat.ble_eq_true_of_le hc] at h1; cases h1
      rcases List.mem_append.1 hx with hx | hx
      · have := topL_le hs.2.1 x hx
        omega
      · exact findC_none hs.2.2.2 h x hx
/-- Rows in order do not overlap. -/
theorem sortedL_apart : ∀ {b : Nat} {l : List α}, sortedL lo hi b l = true → ∀ (i j : Nat) (x y : α), i < j → l[i]? = some x → l[j]? = some y → hi x < lo y
  | _, [], _, i, _, _, _, _, h, _ => by simp at h
  | b, z :: l, hs, 0, j + 1, x, y, _, h1, h2 => by
    simp only [sortedL, Bool.and_eq_true, Nat.ble_eq] at hs
    simp only [List.getElem?_cons_zero, Option.some.injEq] at h1
    subst h1
    have := sortedL_low hs.2.2 y (List.mem_of_getElem? (by simpa using h2))
    omega
  | b, z :: l, hs, i + 1, j + 1, x, y, hij, h1, h2 => by
    simp only [sortedL, Bool.and_eq_true, Nat.ble_eq] at hs
    exact sortedL_apart hs.2.2 i j x y (by omega) (by simpa using h1) (by simpa using h2)
theorem sortedL_order : ∀ {b : Nat} {l : List α}, sortedL lo hi b l = true → ∀ x ∈ l, lo x ≤ hi x
  | _, [], _, _, h => by cases h
  | b, z :: l, hs, x, hx => by
    simp only [sortedL, Bool.and_eq_true, Nat.ble_eq] at hs
    rcases List.mem_cons.1 hx with rfl | hx
    · exact hs.2.1
    · exact sortedL_order hs.2.2 x hx
end

/-! ### the case ranges -/
abbrev rlo (x : CaseRow) : Nat := x.1
abbrev rhi (x : CaseRow) : Nat := x.2.1

theorem lookup_hit (T : Array CaseRow) (hs : sortedL rlo rhi 0 T.toList = true) (r : Nat) (x : CaseRow) (i : Nat) (hx : T.toList[i]? = some x) (h1 : x.1 ≤ r) (h2 : r ≤ x.2.1) :
    ∀ (f lo hi : Nat), hi - lo < f → hi ≤ T.size → lo ≤ i → i < hi → lookupIdx T (r : Int) f lo hi = some i
  | 0, _, _, h, _, _, _ => by omega
  | f + 1, lo, hi, hf, hh, hl, hi' => by
    have hm : (lo + hi) / 2 < T.toList.length := by simp; omega
    have gm : T.toList[(lo + hi) / 2]? = some (T.getD ((lo + hi) / 2) (0, 0, 0, 0, 0)) := by
      have hm' : (lo + hi) / 2 < T.size := by simpa using hm
      simp [Array.getD, hm']
    unfold lookupIdx
    rw [if_pos (by omega)]
    generalize hM : (lo + hi) / 2 = m at gm hm ⊢
    generalize T.getD m (0, 0, 0, 0, 0) = y at gm ⊢
    have ho := sortedL_order hs y (List.mem_of_getElem? gm)
    rcases Nat.lt_trichotomy m i with hlt | heq | hgt
    · have := sortedL_apart hs m i y x hlt gm hx
      simp only [rlo, rhi] at this ho
      rw [if_neg (by omega), if_neg (by omega)]
      exact lookup_hit T hs r x i hx h1 h2 f (m + 1) hi (by omega) hh (by omega) hi'
    · subst heq
      rw [gm] at hx
      cases hx
      rw [if_pos (by omega)]
    · have := sortedL_apart hs i m x y hgt hx gm
      simp only [rlo, rhi] at this ho
      rw [if_neg (by omega), if_pos (by omega)]
      exact lookup_hit T hs r x i hx h1 h2 f lo m (by omega) (by omega) hl (by omega)
theorem lookup_only (T : Array CaseRow) (r : Int) : ∀ (f lo hi i : Nat), lookupIdx T r f lo hi = some i → i < hi ∧ ((T.getD i (0, 0, 0, 0, 0)).1 : Int) ≤ r ∧ r ≤ ((T.getD i (0, 0, 0, 0, 0)).2.1 : Int)
  | 0, _, _, _, h => by simp [lookupIdx] at h
  | f + 1, lo, hi, i, h => by
    unfold lookupIdx at h
    split at h
    · split at h
      · rename_i hlt hin
        cases h
        exact ⟨by omega, hin⟩
      · split at h
        · have := lookup_only T r f _ _ i h
          exact ⟨by omega, this.2⟩
        · exact lookup_only T r f _ _ i h
    · cases h
/-- What the search of lookupCaseRange finds, by a list of rows in order. -/
theorem lookupGo_eq (T : Array CaseRow) (cs : List (Nat × List CaseRow)) (hf : flatC cs = T.toList) (hc : sortedC rlo rhi 0 cs = true) (hs : sortedL rlo rhi 0 T.toList = true) (r : Nat) :
    lookupGo T (r : Int) (T.size + 1) 0 T.size = findC rlo rhi r cs := by
  unfold lookupGo
  cases h : findC rlo rhi r cs with
  | some x =>
    obtain ⟨hm, h1, h2⟩ := findC_some h
    rw [hf] at hm
    obtain ⟨i, hi⟩ := List.mem_iff_getElem?.1 hm
    have hlt : i < T.size := by
      have := (List.getElem?_eq_some_iff.1 hi).1
      simpa using this
    rw [lookup_hit T hs r x i hi h1 h2 (T.size + 1) 0 T.size (by omega) (Nat.le_refl _) (Nat.zero_le _) hlt]
    have gi : T.toList[i]? = some (T.getD i (0, 0, 0, 0, 0)) := by simp [Array.getD, hlt]
    rw [gi] at hi
    simpa using hi
  | none =>
    cases hl : lookupIdx T (r : Int) (T.size + 1) 0 T.size with
    | none => rfl
    | some i =>
      obtain ⟨hlt, h1, h2⟩ := lookup_only T _ _ _ _ i hl
      have gi : T.toList[i]? = some (T.getD i (0, 0, 0, 0, 0)) := by simp [Array.getD, hlt]
      have hn := findC_none hc h (T.getD i (0, 0, 0, 0, 0)) (by rw [hf]; exact List.mem_of_getElem? gi)
      exact absurd (show rlo _ ≤ r ∧ r ≤ rhi _ from ⟨by simp only [rlo]; omega, by simp only [rhi]; omega⟩) hn
theorem lookupGo_neg (T : Array CaseRow) (r : Int) (h : r < 0) : lookupGo T r (T.size + 1) 0 T.size = none := by
  unfold lookupGo
  cases hl : lookupIdx T r (T.size + 1) 0 T.size with
  | none => rfl
  | some i =>
    obtain ⟨_, h1, _⟩ := lookup_only T _ _ _ _ i hl
    omega

/-! ### the range tables -/
abbrev glo (x : Rg) : Nat := x.1
abbrev ghi (x : Rg) : Nat := x.2.1
/-- r is in the table of ranges. -/
def hasC (cs : List (Nat × List Rg)) (r : Nat) : Bool :=
  match findC glo ghi r cs with
  | some x => x.has r
  | none => false

theorem bin_hit (T : Array Rg) (hs : sortedL glo ghi 0 T.toList = true) (r : Nat) (x : Rg) (i : Nat) (hx : T.toList[i]? = some x) (h1 : x.1 ≤ r) (h2 : r ≤ x.2.1) :
    ∀ (f lo hi : Nat), hi - lo < f → hi ≤ T.size → lo ≤ i → i < hi → binGo T r f lo hi = x.has r
  | 0, _, _, h, _, _, _ => by omega
  | f + 1, lo, hi, hf, hh, hl, hi' => by
    have hm : (lo + hi) / 2 < T.toList.length := by simp; omega
    have gm : T.toList[(lo + hi) / 2]? = some (T.getD ((lo + hi) / 2) (0, 0, 0)) := by
      have hm' : (lo + hi) / 2 < T.size := by simpa using hm
      simp [Array.getD, hm']
    unfold binGo
    rw [if_pos (by omega)]
    generalize hM : (lo + hi) / 2 = m at gm hm ⊢
    generalize T.getD m (0, 0, 0) = y at gm ⊢
    have ho := sortedL_order hs y (List.mem_of_getElem? gm)
    rcases Nat.lt_trichotomy m i with hlt | heq | hgt
    · have := sortedL_apart hs m i y x hlt gm hx
      simp only [glo, ghi] at this ho
      rw [if_neg (by omega), if_neg (by omega)]
      exact bin_hit T hs r x i hx h1 h2 f (m + 1) hi (by omega) hh (by omega) hi'
    · subst heq
      rw [gm] at hx
      cases hx
      rw [if_pos (by omega)]
    · have := sortedL_apart hs i m x y hgt hx gm
      simp only [glo, ghi] at this ho
      rw [if_neg (by omega), if_pos (by omega)]
      exact bin_hit T hs r x i hx h1 h2 f lo m (by omega) (by omega) hl (by omega)
theorem bin_miss (T : Array Rg) (r : Nat) (hno : ∀ x ∈ T.toList, ¬ (x.1 ≤ r ∧ r ≤ x.2.1)) : ∀ (f lo hi : Nat), hi ≤ T.size → binGo T r f lo hi = false
  | 0, _, _, _ => rfl
  | f + 1, lo, hi, hh => by
    unfold binGo
    by_cases hlt : lo < hi
    · rw [if_pos hlt]
      have hm' : (lo + hi) / 2 < T.size := by omega
      have gm : T.toList[(lo + hi) / 2]? = some (T.getD ((lo + hi) / 2) (0, 0, 0)) := by simp [Array.getD, hm']
      rw [if_neg (hno _ (List.mem_of_getElem? gm)), bin_miss T r hno f _ _ (by omega), bin_miss T r hno f _ _ hh]
      simp
    · rw [if_neg hlt]
theorem lin_hit (T : Array Rg) (hs : sortedL glo ghi 0 T.toList = true) (r : Nat) (x : Rg) (i : Nat) (hx : T.toList[i]? = some x) (h1 : x.1 ≤ r) (h2 : r ≤ x.2.1) :
    ∀ (f k : Nat), T.size - k < f → k ≤ i → linGo T r f k = x.has r
  | 0, _, h, _ => by omega
  | f + 1, k, hf, hk => by
    have hil : i < T.size := by
      have := (List.getElem?_eq_some_iff.1 hx).1
      simpa using this
    have hkl : k < T.size := by omega
    have gm : T.toList[k]? = some (T.getD k (0, 0, 0)) := by simp [Array.getD, hkl]
    unfold linGo
    rw [if_pos hkl]
    generalize T.getD k (0, 0, 0) = y at gm ⊢
    have ho := sortedL_order hs y (List.mem_of_getElem? gm)
    rcases Nat.lt_or_eq_of_le hk with hlt | heq
    · have := sortedL_apart hs k i y x hlt gm hx
      simp only [glo, ghi] at this ho
      rw [if_neg (by omega), if_neg (by omega)]
      exact lin_hit T hs r x i hx h1 h2 f (k + 1) (by omega) (by omega)
    · subst heq
      rw [gm] at hx
      cases hx
      rw [if_neg (by omega), if_pos (by omega)]
theorem lin_miss (T : Array Rg) (r : Nat) (hno : ∀ x ∈ T.toList, ¬ (x.1 ≤ r ∧ r ≤ x.2.1)) : ∀ (f k : Nat), linGo T r f k = false
  | 0, _ => rfl
  | f + 1, k => by
    unfold linGo
    by_cases hlt : k < T.size
    · rw [if_pos hlt]
      have gm : T.toList[k]? = some (T.getD k (0, 0, 0)) := by simp [Array.getD, hlt]
      have := hno _ (List.mem_of_getElem? gm)
      by_cases h1 : r < (T.getD k (0, 0, 0)).1
      · rw [if_pos h1]
      · rw [if_neg h1, if_neg (by omega), lin_miss T r hno f (k + 1)]
    · rw [if_neg hlt]
/-- What a search over ranges answers: the row that holds r says it; without one: no. -/
theorem is16_of {T : Array Rg} {r : Nat} (hs : sortedL glo ghi 0 T.toList = true) :
    (∀ x ∈ T.toList, x.1 ≤ r → r ≤ x.2.1 → is16Go T r = x.has r) ∧ ((∀ x ∈ T.toList, ¬ (x.1 ≤ r ∧ r ≤ x.2.1)) → is16Go T r = false) := by
  refine ⟨fun x hx h1 h2 => ?_, fun hno => ?_⟩
  · obtain ⟨i, hi⟩ := List.mem_iff_getElem?.1 hx
    have hil : i < T.size := by
      have := (List.getElem?_eq_some_iff.1 hi).1
      simpa using this
    unfold is16Go
    split
    · exact lin_hit T hs r x i hi h1 h2 _ _ (by omega) (Nat.zero_le _)
    · exact bin_hit T hs r x i hi h1 h2 _ _ _ (by omega) (Nat.le_refl _) (Nat.zero_le _) hil
  · unfold is16Go
    split
    · exact lin_miss T r hno _ _
    · exact bin_miss T r hno _ _ _ (Nat.le_refl _)
theorem is32_of {T : Array Rg} {r : Nat} (hs : sortedL glo ghi 0 T.toList = true) :
    (∀ x ∈ T.toList, x.1 ≤ r → r ≤ x.2.1 → is32Go T r = x.has r) ∧ ((∀ x ∈ T.toList, ¬ (x.1 ≤ r ∧ r ≤ x.2.1)) → is32Go T r = false) := by
  refine ⟨fun x hx h1 h2 => ?_, fun hno => ?_⟩
  · obtain ⟨i, hi⟩ := List.mem_iff_getElem?.1 hx
    have hil : i < T.size := by
      have := (List.getElem?_eq_some_iff.1 hi).1
      simpa using this
    unfold is32Go
    split
    · exact lin_hit T hs r x i hi h1 h2 _ _ (by omega) (Nat.zero_le _)
    · exact bin_hit T hs r x i hi h1 h2 _ _ _ (by omega) (Nat.le_refl _) (Nat.zero_le _) hil
  · unfold is32Go
    split
    · exact lin_miss T r hno _ _
    · exact bin_miss T r hno _ _ _ (Nat.le_refl _)
/-- What is asked of a table of ranges and its chunks C (the ranges of Latin-1 left out): H is the last upper end of the 16-bit ranges, L the first lower end of the others. -/
structure Fits (T : RTab) (C : List (Nat × List Rg)) (H L : Nat) : Prop where
  flat : flatC C = (T.r16.extract T.off T.r16.size).toList ++ T.r32.toList
  sorted : sortedC glo ghi 0 C = true
  s16 : sortedL glo ghi 0 (T.r16.extract T.off T.r16.size).toList = true
  s32 : sortedL glo ghi L T.r32.toList = true
  t16 : topL ghi H (T.r16.extract T.off T.r16.size).toList = true
  offB : Nat.blt T.off T.r16.size = true
  last : (T.r16.getD (T.r16.size - 1) (0, 0, 0)).2.1 = H
  some32 : Nat.blt 0 T.r32.size = true
  first : (T.r32.getD 0 (0, 0, 0)).1 = L
  order : (Nat.blt H 65536 && Nat.blt H L) = true
theorem sortedL_weak {α : Type} {lo hi : α → Nat} : ∀ {b b' : Nat} {l : List α}, b' ≤ b → sortedL lo hi b l = true → sortedL lo hi b' l = true
  | _, _, [], _, _ => rfl
  | b, b', x :: l, hb, h => by
    simp only [sortedL, Bool.and_eq_true, Nat.ble_eq] at h ⊢
    exact ⟨by omega, h.2⟩
/-- unicode.isExcludingLatin at a number that is not negative. -/
theorem excl_nat {T : RTab} {C : List (Nat × List Rg)} {H L : Nat} (F : Fits T C H L) (r : Nat) (hr : r < 4294967296) : exclGo T (r : Int) = hasC C r := by
  have hu : u32Of (r : Int) = r := by unfold u32Of; omega
  have ho := F.order
  simp only [Bool.and_eq_true, Nat.blt_eq] at ho
  have h1 : T.off < T.r16.size := by have := F.offB; simpa [Nat.blt_eq] using this
  have h2 : 0 < T.r32.size := by have := F.some32; simpa [Nat.blt_eq] using this
  unfold exclGo
  rw [hu, F.last, F.first]
  by_cases hH : r ≤ H
  · rw [if_pos ⟨h1, hH⟩, Nat.mod_eq_of_lt (by omega)]
    unfold hasC
    cases hf : findC glo ghi r C with
    | some x =>
      obtain ⟨hm, hl, hh⟩ := findC_some hf
      rw [F.flat] at hm
      rcases List.mem_append.1 hm with hm | hm
      · exact (is16_of F.s16).1 x hm hl hh
      · have := sortedL_low F.s32 x hm
        simp only [glo] at this hl
        omega
    | none =>
      refine (is16_of F.s16).2 fun x hx hc => ?_
      exact findC_none F.sorted hf x (by rw [F.flat]; exact List.mem_append.2 (.inl hx)) hc
  · rw [if_neg (by omega)]
    have s32' := sortedL_weak (Nat.zero_le L) F.s32
    by_cases hL : L ≤ r
    · rw [if_pos ⟨h2, by omega⟩]
      unfold hasC
      cases hf : findC glo ghi r C with
      | some x =>
        obtain ⟨hm, hl, hh⟩ := findC_some hf
        rw [F.flat] at hm
        rcases List.mem_append.1 hm with hm | hm
        · have := topL_le F.t16 x hm
          simp only [ghi] at this hh
          omega
        · exact (is32_of s32').1 x hm hl hh
      | none =>
        refine (is32_of s32').2 fun x hx hc => ?_
        exact findC_none F.sorted hf x (by rw [F.flat]; exact List.mem_append.2 (.inr hx)) hc
    · rw [if_neg (by omega)]
      unfold hasC
      cases hf : findC glo ghi r C with
      | none => rfl
      | some x =>
        obtain ⟨hm, hl, hh⟩ := findC_some hf
        rw [F.flat] at hm
        rcases List.mem_append.1 hm with hm | hm
        · have := topL_le F.t16 x hm
          simp only [ghi] at this hh
          omega
        · have := sortedL_low F.s32 x hm
          simp only [glo] at this hl
          omega
/-- .. at a negative one: no. -/
theorem excl_neg {T : RTab} {C : List (Nat × List Rg)} {H L : Nat} (F : Fits T C H L) {r : Int} (h0 : -2147483648 ≤ r) (h1 : r < 0) : exclGo T r = false := by
  have ho := F.order
  simp only [Bool.and_eq_true, Nat.blt_eq] at ho
  unfold exclGo
  rw [F.last, F.first, if_neg (by unfold u32Of; omega), if_neg (by omega)]
/-! ### every number of a table -/
def allStep (Q : Nat → Bool) (s : Nat) : Nat → Nat → Bool
  | _, 0 => true
  | lo, n + 1 => Q lo && allStep Q s (lo + s) n
theorem allStep_of {Q : Nat → Bool} {s : Nat} : ∀ {n lo : Nat}, allStep Q s lo n = true → ∀ k, k < n → Q (lo + k * s) = true
  | 0, _, _, _, h => by omega
  | n + 1, lo, h, 0, _ => by
    simp only [allStep, Bool.and_eq_true] at h
    simpa using h.1
  | n + 1, lo, h, k + 1, hk => by
    simp only [allStep, Bool.and_eq_true] at h
    have := allStep_of h.2 k (by omega)
    rw [show lo + (k + 1) * s = lo + s + k * s by rw [Nat.add_mul]; omega]
    exact this
def allRg (Q : Nat → Bool) : List Rg → Bool
  | [] => true
  | x :: l => (Nat.blt 0 x.2.2 && allStep Q x.2.2 x.1 ((x.2.1 - x.1) / x.2.2 + 1)) && allRg Q l
theorem allRg_of {Q : Nat → Bool} : ∀ {l : List Rg}, allRg Q l = true → ∀ x ∈ l, ∀ r, x.1 ≤ r → r ≤ x.2.1 → x.has r = true → Q r = true
  | [], _, _, h, _, _, _, _ => by cases h
  | y :: l, h, x, hx, r, h1, h2, hh => by
    simp only [allRg, Bool.and_eq_true, Nat.blt_eq] at h
    rcases List.mem_cons.1 hx with rfl | hx
    · obtain ⟨⟨hs, ha⟩, _⟩ := h
      have hd : (r - x.1) % x.2.2 = 0 := by
        simp only [Rg.has, Bool.or_eq_true, beq_iff_eq] at hh
        rcases hh with e | e
        · rw [e]; exact Nat.mod_one _
        · exact e
      have hk := allStep_of ha ((r - x.1) / x.2.2) (Nat.lt_succ_of_le (Nat.div_le_div_right (by omega)))
      have e : x.1 + (r - x.1) / x.2.2 * x.2.2 = r := by
        have := Nat.div_add_mod (r - x.1) x.2.2
        rw [hd, Nat.mul_comm] at this
        omega
      rwa [e] at hk
    · exact allRg_of h.2 x hx r h1 h2 hh
theorem hasC_mem {C : List (Nat × List Rg)} {r : Nat} (h : hasC C r = true) : ∃ x ∈ flatC C, x.1 ≤ r ∧ r ≤ x.2.1 ∧ x.has r = true := by
  unfold hasC at h
  cases hf : findC glo ghi r C with
  | none => rw [hf] at h; cases h
  | some x =>
    rw [hf] at h
    obtain ⟨hm, hl, hh⟩ := findC_some hf
    exact ⟨x, hm, hl, hh, h⟩
theorem hasC_all {C : List (Nat × List Rg)} {Q : Nat → Bool} (ha : allRg Q (flatC C) = true) {r : Nat} (h : hasC C r = true) : Q r = true := by
  obtain ⟨x, hm, hl, hh, hx⟩ := hasC_mem h
  exact allRg_of ha x hm r hl hh hx
end Go.Proofs.YtfdbcjdkikmjiaaDoor.Plain
