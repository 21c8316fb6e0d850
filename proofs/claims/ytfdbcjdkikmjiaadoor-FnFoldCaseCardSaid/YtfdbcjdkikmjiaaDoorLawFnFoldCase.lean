/-
  WALK of the law FnFoldCase, and its plain law: upper, lower and title case of a number are reached from it by folding, but for those of the two letters of Turkish.
-/
import Derived.Test.YtfdbcjdkikmjiaaDoorRows
import Derived.Test.YtfdbcjdkikmjiaaDoorFold
import Derived.Test.YtfdbcjdkikmjiaaDoorCase
import Derived.Test.YtfdbcjdkikmjiaaDoorPlainFold
import Derived.Test.YtfdbcjdkikmjiaaDoorDraw
import Derived.LoopTactic
namespace Go.Proofs.YtfdbcjdkikmjiaaDoor.fnFoldCase
open Go.RowKit Go.Lib
set_option linter.unusedVariables false

/-- What is left of the aim u behind k rounds: r once it has been met. -/
def aim (r u : Int) : Nat → Int
  | 0 => u
  | k + 1 => if Plain.it r k = aim r u k then r else aim r u k
def hit (r u : Nat) : Bool := Nat.beq r u || (Nat.beq (Plain.itN r 1) u || (Nat.beq (Plain.itN r 2) u || Nat.beq (Plain.itN r 3) u))
def okAt (r : Nat) : Bool := (Nat.beq r 304 || Nat.beq r 305) || (hit r (Plain.upN r) && (hit r (Plain.lowN r) && hit r (Plain.titN r)))
theorem at_special : Plain.specAll okAt = true := by kernel_rfl
theorem aim_stays (r u : Int) : ∀ k, aim r u k = u ∨ aim r u k = r
  | 0 => .inl rfl
  | k + 1 => by
    show (if Plain.it r k = aim r u k then r else aim r u k) = u ∨ (if Plain.it r k = aim r u k then r else aim r u k) = r
    split
    · exact .inr rfl
    · exact aim_stays r u k
theorem aim_keeps {r u : Int} {k : Nat} (h : aim r u k = r) : aim r u (k + 1) = r := by
  show (if Plain.it r k = aim r u k then r else aim r u k) = r
  split
  · rfl
  · exact h
theorem aim_hit {r u : Int} {k : Nat} (h : Plain.it r k = u) : aim r u (k + 1) = r := by
  rcases aim_stays r u k with e | e
  · show (if Plain.it r k = aim r u k then r else aim r u k) = r
    rw [e, if_pos h]
  · exact aim_keeps e
theorem aim_four {r u : Int} (h : r = u ∨ Plain.it r 1 = u ∨ Plain.it r 2 = u ∨ Plain.it r 3 = u) : aim r u 4 = r := by
  rcases h with h | h | h | h
  · exact aim_keeps (aim_keeps (aim_keeps (aim_hit (k := 0) h)))
  · exact aim_keeps (aim_keeps (aim_hit h))
  · exact aim_keeps (aim_hit h)
  · exact aim_hit h
theorem hit_it {k : Nat} (hk : k ≤ 1114111) {u : Nat} (h : hit k u = true) : (k : Int) = (u : Int) ∨ Plain.it (k : Int) 1 = (u : Int) ∨ Plain.it (k : Int) 2 = (u : Int) ∨ Plain.it (k : Int) 3 = (u : Int) := by
  simp only [hit, Bool.or_eq_true, Nat.beq_eq] at h
  rw [(Plain.it_nat hk 1).1, (Plain.it_nat hk 2).1, (Plain.it_nat hk 3).1]
  omega
theorem aims (r : Int) (n1 : r ≠ 304) (n2 : r ≠ 305) : aim r (toUpperU r) 4 = r ∧ aim r (toLowerU r) 4 = r ∧ aim r (toTitleU r) 4 = r := by
  by_cases hv : 0 ≤ r ∧ r ≤ 1114111
  · obtain ⟨k, rfl⟩ : ∃ k : Nat, r = k := ⟨r.toNat, by omega⟩
    rw [Plain.toUpperU_nat, Plain.toLowerU_nat, Plain.toTitleU_nat]
    rcases Plain.special at_special k with h | h
    · simp only [okAt, Bool.or_eq_true, Bool.and_eq_true, Nat.beq_eq] at h
      rcases h with h | ⟨h1, h2, h3⟩
      · omega
      · exact ⟨aim_four (hit_it (by omega) h1), aim_four (hit_it (by omega) h2), aim_four (hit_it (by omega) h3)⟩
    · rw [h.up, h.low, h.tit]
      exact ⟨aim_four (.inl rfl), aim_four (.inl rfl), aim_four (.inl rfl)⟩
  · rw [Plain.far_up hv, Plain.far_low hv, Plain.far_tit hv]
    exact ⟨aim_four (.inl rfl), aim_four (.inl rfl), aim_four (.inl rfl)⟩
theorem const_eq : Plain.foldI 65 = 97 := by kernel_rfl
theorem aim_pos {r u x a : Int} {k : Nat} (hx : Plain.it r k = x) (ha : aim r u k = a) (h : x = a) : aim r u (k + 1) = r := by
  show (if Plain.it r k = aim r u k then r else aim r u k) = r
  rw [hx, ha, if_pos h]
theorem aim_neg {r u x a : Int} {k : Nat} (hx : Plain.it r k = x) (ha : aim r u k = a) (h : ¬ x = a) : aim r u (k + 1) = a := by
  show (if Plain.it r k = aim r u k then r else aim r u k) = a
  rw [hx, ha, if_neg h]

set_option maxHeartbeats 4000000 in
set_option maxRecDepth 100000 in
theorem walk {v : Value} {n : Nat} {w : World} (hC : CodeIs w.heap.size v n w) (hL : laidMet Tryd.prog Rows.fnFoldCaseRow.laid w) :
    Calls Tryd.prog 12 #[v] w fun e w' => e = .returned (.bool true) ∧ Below w.heap.size w w' := by
  have HT := Lib.hid (foldTabs_of_laid hL (.head _) (.tail _ (.head _)) (.tail _ (.tail _ (.head _))))
  have HC := Lib.hid hC
  obtain ⟨a, cap, rfl⟩ := hC.1
  clear hL hC
  by_cases hn : n ≤ 1048576
  · go_enter Tryd.func12, Tryd.ntmps12
    have HT0 := HT
    have HB0 := Lib.hid (Below.refl w.heap.size w)
    go_wp2_with fail
    refine (mapFold _ _ HT0.out).mono ?_
    rintro e w1 ⟨rfl, hT, hb⟩
    have HT1 := Lib.hid hT
    have HB1 := Lib.hid (bel_trans3 HB0.out hb)
    clear hT hb
    rw [const_eq]
    have HC1 := Lib.hid ((HC.out.below HB1.out).mono HB1.out.size)
    go_wp2_with fail
    refine (draw_any HC1.out hn).mono ?_
    rintro e w2 ⟨r, h0, h1, rfl, hb⟩
    have HT2 := Lib.hid (foldTabs_below HT1.out hb)
    have HB2 := Lib.hid (bel_trans3 HB1.out hb)
    clear hb
    rcases (by omega : r = 304 ∨ r = 305 ∨ (r ≠ 304 ∧ r ≠ 305)) with h | h | ⟨a1, a2⟩
    · subst h
      go_wp2
      go_ret
      exact ⟨rfl, HB2.out⟩
    · subst h
      go_wp2
      go_ret
      exact ⟨rfl, HB2.out⟩
    · have b1 : (r == 304) = false := by simp [a1]
      have b2 : (r == 305) = false := by simp [a2]
      have HA := Lib.hid (aims r a1 a2)
      clear a1 a2
      go_wp2_with fail
      refine (mapUp _ _ HT2.out.case).mono ?_
      rintro e w3 ⟨rfl, -, hb⟩
      have HT3 := Lib.hid (foldTabs_below HT2.out hb)
      have HB3 := Lib.hid (bel_trans3 HB2.out hb)
      clear hb
      go_wp2_with fail
      refine (mapLow _ _ HT3.out.case).mono ?_
      rintro e w4 ⟨rfl, -, hb⟩
      have HT4 := Lib.hid (foldTabs_below HT3.out hb)
      have HB4 := Lib.hid (bel_trans3 HB3.out hb)
      clear hb
      go_wp2_with fail
      refine (mapTit _ _ HT4.out.case).mono ?_
      rintro e w5 ⟨rfl, -, hb⟩
      have HT5 := Lib.hid (foldTabs_below HT4.out hb)
      have HB5 := Lib.hid (bel_trans3 HB4.out hb)
      clear hb
      go_wp2
      generalize hU : toUpperU r = U at HA
      generalize hW : toLowerU r = W at HA
      generalize hZ : toTitleU r = Z at HA
      clear hU hW hZ
      go_loopw [4, 5, 6, 7, 8] (fun u l t x s wr => ∃ k : Nat, k ≤ 4 ∧ s = .int .i64 k ∧ x = .int .i32 (Plain.it r k) ∧ u = .int .i32 (aim r U k) ∧ l = .int .i32 (aim r W k) ∧ t = .int .i32 (aim r Z k) ∧ FoldTabs wr ∧ Below w.heap.size w wr) (fun _ _ _ _ s _ => 5 - (RowKit.intOf s).toNat)
      case atStart => exact ⟨0, by omega, rfl, rfl, rfl, rfl, rfl, HT5.out, HB5.out⟩
      case round =>
        obtain ⟨k, hk, rfl, rfl, rfl, rfl, rfl, hT, hB⟩ := hrel
        have HT6 := Lib.hid hT
        have HB6 := Lib.hid hB
        clear hT hB
        by_cases hk4 : k < 4
        · have HN : Hid (Plain.foldI (Plain.it r k) = Plain.it r (k + 1)) := Lib.hid rfl
          generalize hx : Plain.it r k = x at HN
          generalize hu : aim r U k = u
          generalize hl : aim r W k = l
          generalize ht : aim r Z k = t
          by_cases cu : x = u <;> by_cases cl : x = l <;> by_cases ct : x = t
          · have EU := Lib.hid (aim_pos hx hu cu)
            have EL := Lib.hid (aim_pos hx hl cl)
            have ET := Lib.hid (aim_pos hx ht ct)
            have du : (x == u) = true := by simp [cu]
            have dl : (x == l) = true := by simp [cl]
            have dt : (x == t) = true := by simp [ct]
            clear cu cl ct hu hl ht hx
            go_wp2_with fail
            refine (mapFold _ _ HT6.out).mono ?_
            rintro e w7 ⟨rfl, hT, hb⟩
            have HT7 := Lib.hid hT
            have HB7 := Lib.hid (bel_trans3 HB6.out hb)
            clear hT hb
            rw [HN.out]
            go_wp2
            go_roundw
            case rel => exact ⟨k + 1, by omega, by go_num, rfl, by rw [EU.out], by rw [EL.out], by rw [ET.out], HT7.out, HB7.out⟩
            case measure => simp [RowKit.intOf]; omega
          · have EU := Lib.hid (aim_pos hx hu cu)
            have EL := Lib.hid (aim_pos hx hl cl)
            have ET := Lib.hid (aim_neg hx ht ct)
            have du : (x == u) = true := by simp [cu]
            have dl : (x == l) = true := by simp [cl]
            have dt : (x == t) = false := by simp [ct]
            clear cu cl ct hu hl ht hx
            go_wp2_with fail
            refine (mapFold _ _ HT6.out).mono ?_
            rintro e w7 ⟨rfl, hT, hb⟩
            have HT7 := Lib.hid hT
            have HB7 := Lib.hid (bel_trans3 HB6.out hb)
            clear hT hb
            rw [HN.out]
            go_wp2
            go_roundw
            case rel => exact ⟨k + 1, by omega, by go_num, rfl, by rw [EU.out], by rw [EL.out], by rw [ET.out], HT7.out, HB7.out⟩
            case measure => simp [RowKit.intOf]; omega
          · have EU := Lib.hid (aim_pos hx hu cu)
            have EL := Lib.hid (aim_neg hx hl cl)
            have ET := Lib.hid (aim_pos hx ht ct)
            have du : (x == u) = true := by simp [cu]
            have dl : (x == l) = false := by simp [cl]
            have dt : (x == t) = true := by simp [ct]
            clear cu cl ct hu hl ht hx
            go_wp2_with fail
            refine (mapFold _ _ HT6.out).mono ?_
            rintro e w7 ⟨rfl, hT, hb⟩
            have HT7 := Lib.hid hT
            have HB7 := Lib.hid (bel_trans3 HB6.out hb)
            clear hT hb
            rw [HN.out]
            go_wp2
            go_roundw
            case rel => exact ⟨k + 1, by omega, by go_num, rfl, by rw [EU.out], by rw [EL.out], by rw [ET.out], HT7.out, HB7.out⟩
            case measure => simp [RowKit.intOf]; omega
          · have EU := Lib.hid (aim_pos hx hu cu)
            have EL := Lib.hid (aim_neg hx hl cl)
            have ET := Lib.hid (aim_neg hx ht ct)
            have du : (x == u) = true := by simp [cu]
            have dl : (x == l) = false := by simp [cl]
            have dt : (x == t) = false := by simp [ct]
            clear cu cl ct hu hl ht hx
            go_wp2_with fail
            refine (mapFold _ _ HT6.out).mono ?_
            rintro e w7 ⟨rfl, hT, hb⟩
            have HT7 := Lib.hid hT
            have HB7 := Lib.hid (bel_trans3 HB6.out hb)
            clear hT hb
            rw [HN.out]
            go_wp2
            go_roundw
            case rel => exact ⟨k + 1, by omega, by go_num, rfl, by rw [EU.out], by rw [EL.out], by rw [ET.out], HT7.out, HB7.out⟩
            case measure => simp [RowKit.intOf]; omega
          · have EU := Lib.hid (aim_neg hx hu cu)
            have EL := Lib.hid (aim_pos hx hl cl)
            have ET := Lib.hid (aim_pos hx ht ct)
            have du : (x == u) = false := by simp [cu]
            have dl : (x == l) = true := by simp [cl]
            have dt : (x == t) = true := by simp [ct]
            clear cu cl ct hu hl ht hx
            go_wp2_with fail
            refine (mapFold _ _ HT6.out).mono ?_
            rintro e w7 ⟨rfl, hT, hb⟩
            have HT7 := Lib.hid hT
            have HB7 := Lib.hid (bel_trans3 HB6.out hb)
            clear hT hb
            rw [HN.out]
            go_wp2
            go_roundw
            case rel => exact ⟨k + 1, by omega, by go_num, rfl, by rw [EU.out], by rw [EL.out], by rw [ET.out], HT7.out, HB7.out⟩
            case measure => simp [RowKit.intOf]; omega
          · have EU := Lib.hid (aim_neg hx hu cu)
            have EL := Lib.hid (aim_pos hx hl cl)
            have ET := Lib.hid (aim_neg hx ht ct)
            have du : (x == u) = false := by simp [cu]
            have dl : (x == l) = true := by simp [cl]
            have dt : (x == t) = false := by simp [ct]
            clear cu cl ct hu hl ht hx
            go_wp2_with fail
            refine (mapFold _ _ HT6.out).mono ?_
            rintro e w7 ⟨rfl, hT, hb⟩
            have HT7 := Lib.hid hT
            have HB7 := Lib.hid (bel_trans3 HB6.out hb)
            clear hT hb
            rw [HN.out]
            go_wp2
            go_roundw
            case rel => exact ⟨k + 1, by omega, by go_num, rfl, by rw [EU.out], by rw [EL.out], by rw [ET.out], HT7.out, HB7.out⟩
            case measure => simp [RowKit.intOf]; omega
          · have EU := Lib.hid (aim_neg hx hu cu)
            have EL := Lib.hid (aim_neg hx hl cl)
            have ET := Lib.hid (aim_pos hx ht ct)
            have du : (x == u) = false := by simp [cu]
            have dl : (x == l) = false := by simp [cl]
            have dt : (x == t) = true := by simp [ct]
            clear cu cl ct hu hl ht hx
            go_wp2_with fail
            refine (mapFold _ _ HT6.out).mono ?_
            rintro e w7 ⟨rfl, hT, hb⟩
            have HT7 := Lib.hid hT
            have HB7 := Lib.hid (bel_trans3 HB6.out hb)
            clear hT hb
            rw [HN.out]
            go_wp2
            go_roundw
            case rel => exact ⟨k + 1, by omega, by go_num, rfl, by rw [EU.out], by rw [EL.out], by rw [ET.out], HT7.out, HB7.out⟩
            case measure => simp [RowKit.intOf]; omega
          · have EU := Lib.hid (aim_neg hx hu cu)
            have EL := Lib.hid (aim_neg hx hl cl)
            have ET := Lib.hid (aim_neg hx ht ct)
            have du : (x == u) = false := by simp [cu]
            have dl : (x == l) = false := by simp [cl]
            have dt : (x == t) = false := by simp [ct]
            clear cu cl ct hu hl ht hx
            go_wp2_with fail
            refine (mapFold _ _ HT6.out).mono ?_
            rintro e w7 ⟨rfl, hT, hb⟩
            have HT7 := Lib.hid hT
            have HB7 := Lib.hid (bel_trans3 HB6.out hb)
            clear hT hb
            rw [HN.out]
            go_wp2
            go_roundw
            case rel => exact ⟨k + 1, by omega, by go_num, rfl, by rw [EU.out], by rw [EL.out], by rw [ET.out], HT7.out, HB7.out⟩
            case measure => simp [RowKit.intOf]; omega
        · obtain rfl : k = 4 := by omega
          obtain ⟨e1, e2, e3⟩ := HA.out
          rw [e1, e2, e3]
          generalize Plain.it r 4 = x4
          clear hk4 HA e1 e2 e3
          have hrr : (r == r) = true := by simp
          go_wp2
          go_ret
          exact ⟨by simp, HB6.out⟩
  · go_enter Tryd.func12, Tryd.ntmps12
    go_wp2
    go_ret
    exact ⟨rfl, Below.refl _ _⟩
end Go.Proofs.YtfdbcjdkikmjiaaDoor.fnFoldCase
namespace Go.Proofs.YtfdbcjdkikmjiaaDoor
theorem fnFoldCase_walk {v : Value} {n : Nat} {w : World} (hC : CodeIs w.heap.size v n w) (hL : laidMet Tryd.prog Rows.fnFoldCaseRow.laid w) :
    Calls Tryd.prog 12 #[v] w fun e w' => e = .returned (.bool true) ∧ RowKit.Below w.heap.size w w' := fnFoldCase.walk hC hL
end Go.Proofs.YtfdbcjdkikmjiaaDoor
