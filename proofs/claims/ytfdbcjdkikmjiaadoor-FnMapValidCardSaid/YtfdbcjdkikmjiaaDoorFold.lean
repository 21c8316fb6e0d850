/-
  WALKS of unicode.SimpleFold and the thin package's: each answers its plain function, at every number of 32 bits; nothing is written.
-/
import Derived.Test.YtfdbcjdkikmjiaaDoorFoldTab
import Derived.Test.YtfdbcjdkikmjiaaDoorShelf
import Derived.Test.YtfdbcjdkikmjiaaDoorPick
import Derived.PinnedBridge
import Derived.Deep.LoopGhost
import Derived.LoopTactic
namespace Go.Proofs.YtfdbcjdkikmjiaaDoor
open Go.RowKit Go.Lib Go.Shelf
set_option linter.unusedVariables false

theorem foldZ_nat {k : Nat} (h : k ≤ 1114111) : Plain.foldI (k : Int) = ((Plain.foldN k : Nat) : Int) := by
  unfold Plain.foldI
  rw [if_pos (by omega), Int.toNat_natCast]
theorem foldZ_far {r : Int} (h : ¬ (0 ≤ r ∧ r ≤ 1114111)) : Plain.foldI r = r := by
  unfold Plain.foldI
  rw [if_neg h]
theorem fold_far (r : Int) (w : World) (h : ¬ (0 ≤ r ∧ r ≤ 1114111)) : Calls Tryd.prog 27 #[.int .i32 r] w fun e w' => e = .returned (.int .i32 r) ∧ w = w' := by
  by_cases h0 : r < 0
  · clear h
    go_enter Tryd.func27, Tryd.ntmps27
    go_wp2
    go_ret
    exact ⟨rfl, rfl⟩
  · have h1 : 1114111 < r := by omega
    clear h
    go_enter Tryd.func27, Tryd.ntmps27
    go_wp2
    go_ret
    exact ⟨rfl, rfl⟩
theorem ascii_le : ((List.range 128).all fun k => Nat.ble (Plain.foldAscii k) 65535) = true := by kernel_rfl
set_option maxRecDepth 100000 in
theorem fold_ascii (k : Nat) (w : World) (hk : k ≤ 127) (hA : AscIs w) : Calls Tryd.prog 27 #[.int .i32 (k : Int)] w fun e w' => e = .returned (.int .i32 ((Plain.foldAscii k : Nat) : Int)) ∧ w = w' := by
  have hc := hA k (by omega)
  have hz : Plain.foldAscii k ≤ 65535 := Nat.le_of_ble_eq_true (List.all_eq_true.1 ascii_le k (List.mem_range.2 (by omega)))
  generalize Plain.foldAscii k = z at hc hz
  clear hA
  go_enter Tryd.func27, Tryd.ntmps27
  go_wp2
  go_ret
  exact ⟨rfl, rfl⟩
set_option maxHeartbeats 1000000 in
set_option maxRecDepth 100000 in
theorem fold_hit (k j t : Nat) (w : World) (h1 : 127 < k) (h2 : k ≤ 1114111) (hj : j < 94) (hkj : (orbAt j).1 = k) (htj : (orbAt j).2 = t) (hO : OrbIs w) : Calls Tryd.prog 27 #[.int .i32 (k : Int)] w fun e w' => e = .returned (.int .i32 (t : Int)) ∧ w = w' := by
  obtain ⟨R, oR, cap, hg, hT⟩ := hO
  have HT := Lib.hid hT
  have HM := Lib.hid (fun i hi => orbAt_mono i j hi hj)
  have HN := Lib.hid (fun i (hi : j < i) (hi2 : i < 94) => orbAt_mono j i hi hi2)
  have HS := Lib.hid orbAt_small
  have HK := Lib.hid hkj
  have HTJ := Lib.hid htj
  clear hT hkj htj
  go_enter Tryd.func27, Tryd.ntmps27
  go_wp2
  go_loopg [3, 4] 95 (fun g s3 s4 wx => wx = w ∧ ∃ lo hi : Nat, s3 = .int .i64 lo ∧ s4 = .int .i64 hi ∧ lo ≤ j ∧ j ≤ hi ∧ hi ≤ 94 ∧ hi - lo < g)
  case atStart => exact ⟨rfl, 0, 94, rfl, rfl, Nat.zero_le _, by omega, by omega, by omega⟩
  case round =>
    obtain ⟨rfl, lo, hi, rfl, rfl, hlj, hjh, hhn, hgk⟩ := hrel
    by_cases hlt : lo < hi
    · have hzz : (lo : Int) < (hi : Int) := by omega
      obtain ⟨m, hm⟩ : ∃ m, (lo + hi) / 2 = m := ⟨_, rfl⟩
      have hmz : ((lo : Int) + (hi : Int)) / 2 = (m : Int) := by omega
      have hmr : lo ≤ m ∧ m < hi := by omega
      obtain ⟨c0, c1⟩ := HT.out m (by omega)
      obtain ⟨s0, s1⟩ := HS.out m (by omega)
      have hcmp : (m < j → (orbAt m).1 < k) ∧ (j ≤ m → k ≤ (orbAt m).1) := by
        refine ⟨fun h => by rw [← HK.out]; exact HM.out m h, fun h => ?_⟩
        rcases Nat.lt_or_eq_of_le h with h' | h'
        · have := HN.out m h' (by omega); have := HK.out; omega
        · subst h'; rw [HK.out]; exact Nat.le_refl _
      obtain ⟨hc1, hc2⟩ := hcmp
      generalize (orbAt m).1 = fm at c0 s0 hc1 hc2
      generalize (orbAt m).2 = tm at c1 s1
      by_cases hmj : m < j
      · have hf := hc1 hmj
        have hfz : (fm : Int) < (k : Int) := by omega
        clear hc1 hc2 hm
        go_wp2
        go_roundg (gk - 1)
        case measure => omega
        case rel => exact ⟨rfl, m + 1, hi, by first | rfl | simp, rfl, by omega, by omega, by omega, by omega⟩
      · have hf := hc2 (by omega)
        have hfz : ¬ ((fm : Int) < (k : Int)) := by omega
        clear hc1 hc2 hm
        go_wp2
        go_roundg (gk - 1)
        case measure => omega
        case rel => exact ⟨rfl, lo, m, rfl, rfl, by omega, by omega, by omega, by omega⟩
    · obtain rfl : lo = j := by omega
      obtain ⟨c0, c1⟩ := HT.out lo hj
      obtain ⟨s0, s1⟩ := HS.out lo hj
      rw [HK.out] at c0
      rw [HTJ.out] at c1 s1
      have hzz : ¬ ((lo : Int) < (hi : Int)) := by omega
      have hl94 : (lo : Int) < 94 := by omega
      have hkk : ((k : Int) == (k : Int)) = true := by simp
      clear HT HM HN HS HK HTJ s0
      go_wp2
      go_ret
      exact ⟨rfl, rfl⟩
set_option maxHeartbeats 2000000 in
set_option maxRecDepth 100000 in
theorem fold_miss (k : Nat) (w : World) (h1 : 127 < k) (h2 : k ≤ 1114111) (hk : ∀ i, i < 94 → (orbAt i).1 ≠ k) (hO : OrbIs w) (z : Int)
    (hV : CaseVar 2 caseA w)
    (hz : z = match lookupIdx caseA (k : Int) (caseA.size + 1) 0 caseA.size with | some i => (if convertR 1 (k : Int) (caseA.getD i (0, 0, 0, 0, 0)) = (k : Int) then convertR 0 (k : Int) (caseA.getD i (0, 0, 0, 0, 0)) else convertR 1 (k : Int) (caseA.getD i (0, 0, 0, 0, 0))) | none => (k : Int)) :
    Calls Tryd.prog 27 #[.int .i32 (k : Int)] w fun e w' => e = .returned (.int .i32 z) ∧ ∃ q, w.drewN q = w' := by
  obtain ⟨R, oR, cap, hg, hT⟩ := hO
  obtain ⟨R2, oR2, cap2, hg2, hT2⟩ := hV
  have HT := Lib.hid hT
  have HS := Lib.hid orbAt_small
  have HK := Lib.hid hk
  have HZ := Lib.hid hz
  have cL := Tryd.unicode_lookupCaseRange caseA R2 oR2 cap2 (k : Int) w hT2 caseA_ok2.ok (by rw [caseA_size]; omega)
  have CL := Lib.hid cL
  have HT2 := Lib.hid hT2
  rw [caseA_size] at hg2
  clear hT hk hz cL hT2
  go_enter Tryd.func27, Tryd.ntmps27
  go_wp2
  go_loopg [3, 4] 95 (fun g s3 s4 wx => wx = w ∧ ∃ lo hi : Nat, s3 = .int .i64 lo ∧ s4 = .int .i64 hi ∧ lo ≤ hi ∧ hi ≤ 94 ∧ hi - lo < g)
  case atStart => exact ⟨rfl, 0, 94, rfl, rfl, Nat.zero_le _, by omega, by omega⟩
  case round =>
    obtain ⟨rfl, lo, hi, rfl, rfl, hlh, hhn, hgk⟩ := hrel
    by_cases hlt : lo < hi
    · have hzz : (lo : Int) < (hi : Int) := by omega
      obtain ⟨m, hm⟩ : ∃ m, (lo + hi) / 2 = m := ⟨_, rfl⟩
      have hmz : ((lo : Int) + (hi : Int)) / 2 = (m : Int) := by omega
      have hmr : lo ≤ m ∧ m < hi := by omega
      obtain ⟨c0, c1⟩ := HT.out m (by omega)
      obtain ⟨s0, s1⟩ := HS.out m (by omega)
      generalize (orbAt m).1 = fm at c0 s0
      generalize (orbAt m).2 = tm at c1 s1
      by_cases hf : fm < k
      · have hfz : (fm : Int) < (k : Int) := by omega
        clear hm
        go_wp2
        go_roundg (gk - 1)
        case measure => omega
        case rel => exact ⟨rfl, m + 1, hi, by first | rfl | simp, rfl, by omega, by omega, by omega⟩
      · have hfz : ¬ ((fm : Int) < (k : Int)) := by omega
        clear hm
        go_wp2
        go_roundg (gk - 1)
        case measure => omega
        case rel => exact ⟨rfl, lo, m, rfl, rfl, by omega, by omega, by omega⟩
    · have hzz : ¬ ((lo : Int) < (hi : Int)) := by omega
      by_cases hl : lo < 94
      · obtain ⟨c0, c1⟩ := HT.out lo hl
        obtain ⟨s0, s1⟩ := HS.out lo hl
        have hne := HK.out lo hl
        have hl94 : (lo : Int) < 94 := by omega
        have hkk : (((orbAt lo).1 : Int) == (k : Int)) = false := by simp; omega
        generalize (orbAt lo).1 = fm at c0 s0 hne hkk
        generalize (orbAt lo).2 = tm at c1 s1
        clear hne
        go_wp2_with fail
        refine CL.out.mono ?_
        rintro e w' ⟨rfl, hw⟩
        subst hw
        clear CL
        cases hli : lookupIdx caseA (k : Int) (caseA.size + 1) 0 caseA.size with
        | none =>
          have hz := HZ.out
          rw [hli] at hz
          have HZ' := Lib.hid hz
          clear HZ hz hli HT2 HT HS HK
          go_wp2
          go_ret
          exact ⟨by rw [HZ'.out]; rfl, 0, rfl⟩
        | some i =>
          obtain ⟨hil, hlo, hhi⟩ := lookupIdx_some caseA _ _ _ _ i hli
          have c1 := Tryd.unicode_convertCase 1 (by omega) (k : Int) R2 (oR2 + i * 5) (caseA.getD i (0, 0, 0, 0, 0)) w' hlo hhi (caseA_ok2 i hil).2 (HT2.out i hil).1 (HT2.out.delta i hil 1 (by omega))
          have c0 := fun q => Tryd.unicode_convertCase 0 (by omega) (k : Int) R2 (oR2 + i * 5) (caseA.getD i (0, 0, 0, 0, 0)) (w'.drewN q) hlo hhi (caseA_ok2 i hil).2 ((HT2.out.drewN q) i hil).1 ((HT2.out.drewN q).delta i hil 0 (by omega))
          rw [convert_fits _ (caseA_row i hil) 1 (by omega) _ hlo hhi] at c1
          simp only [convert_fits _ (caseA_row i hil) 0 (by omega) _ hlo hhi] at c0
          have hz := HZ.out
          rw [hli] at hz
          simp only at hz
          obtain ⟨l1, hl1⟩ : ∃ l1, convertR 1 (k : Int) (caseA.getD i (0, 0, 0, 0, 0)) = l1 := ⟨_, rfl⟩
          obtain ⟨l0, hl0⟩ : ∃ l0, convertR 0 (k : Int) (caseA.getD i (0, 0, 0, 0, 0)) = l0 := ⟨_, rfl⟩
          rw [hl1] at c1
          simp only [hl0] at c0
          rw [hl1, hl0] at hz
          have C1 := Lib.hid c1
          have C0 := Lib.hid c0
          have HZ' := Lib.hid hz
          clear c0 c1 hz HZ hli hl1 hl0 hlo hhi hil HT2 HT HS HK
          go_wp2_with fail
          refine C1.out.mono ?_
          rintro e w2 ⟨rfl, q, rfl⟩
          by_cases hc : l1 = (k : Int)
          · have hb : (l1 != (k : Int)) = false := by simp [hc]
            have HC := Lib.hid hc
            clear hc
            go_wp2_with fail
            refine (C0.out q).mono ?_
            rintro e w3 ⟨rfl, q2, rfl⟩
            go_wp2
            go_ret
            exact ⟨by rw [HZ'.out, if_pos HC.out]; rfl, q + q2, by simp [World.drewN]⟩
          · have hb : (l1 != (k : Int)) = true := by simp [hc]
            have HC := Lib.hid hc
            clear hc
            go_wp2
            go_ret
            exact ⟨by rw [HZ'.out, if_neg HC.out]; rfl, q, rfl⟩
      · have hl94 : ¬ ((lo : Int) < 94) := by omega
        go_wp2_with fail
        refine CL.out.mono ?_
        rintro e w' ⟨rfl, hw⟩
        subst hw
        clear CL
        cases hli : lookupIdx caseA (k : Int) (caseA.size + 1) 0 caseA.size with
        | none =>
          have hz := HZ.out
          rw [hli] at hz
          have HZ' := Lib.hid hz
          clear HZ hz hli HT2 HT HS HK
          go_wp2
          go_ret
          exact ⟨by rw [HZ'.out]; rfl, 0, rfl⟩
        | some i =>
          obtain ⟨hil, hlo, hhi⟩ := lookupIdx_some caseA _ _ _ _ i hli
          have c1 := Tryd.unicode_convertCase 1 (by omega) (k : Int) R2 (oR2 + i * 5) (caseA.getD i (0, 0, 0, 0, 0)) w' hlo hhi (caseA_ok2 i hil).2 (HT2.out i hil).1 (HT2.out.delta i hil 1 (by omega))
          have c0 := fun q => Tryd.unicode_convertCase 0 (by omega) (k : Int) R2 (oR2 + i * 5) (caseA.getD i (0, 0, 0, 0, 0)) (w'.drewN q) hlo hhi (caseA_ok2 i hil).2 ((HT2.out.drewN q) i hil).1 ((HT2.out.drewN q).delta i hil 0 (by omega))
          rw [convert_fits _ (caseA_row i hil) 1 (by omega) _ hlo hhi] at c1
          simp only [convert_fits _ (caseA_row i hil) 0 (by omega) _ hlo hhi] at c0
          have hz := HZ.out
          rw [hli] at hz
          simp only at hz
          obtain ⟨l1, hl1⟩ : ∃ l1, convertR 1 (k : Int) (caseA.getD i (0, 0, 0, 0, 0)) = l1 := ⟨_, rfl⟩
          obtain ⟨l0, hl0⟩ : ∃ l0, convertR 0 (k : Int) (caseA.getD i (0, 0, 0, 0, 0)) = l0 := ⟨_, rfl⟩
          rw [hl1] at c1
          simp only [hl0] at c0
          rw [hl1, hl0] at hz
          have C1 := Lib.hid c1
          have C0 := Lib.hid c0
          have HZ' := Lib.hid hz
          clear c0 c1 hz HZ hli hl1 hl0 hlo hhi hil HT2 HT HS HK
          go_wp2_with fail
          refine C1.out.mono ?_
          rintro e w2 ⟨rfl, q, rfl⟩
          by_cases hc : l1 = (k : Int)
          · have hb : (l1 != (k : Int)) = false := by simp [hc]
            have HC := Lib.hid hc
            clear hc
            go_wp2_with fail
            refine (C0.out q).mono ?_
            rintro e w3 ⟨rfl, q2, rfl⟩
            go_wp2
            go_ret
            exact ⟨by rw [HZ'.out, if_pos HC.out]; rfl, q + q2, by simp [World.drewN]⟩
          · have hb : (l1 != (k : Int)) = true := by simp [hc]
            have HC := Lib.hid hc
            clear hc
            go_wp2
            go_ret
            exact ⟨by rw [HZ'.out, if_neg HC.out]; rfl, q, rfl⟩

theorem convert_nat (i k : Nat) (hil : i < caseA.size) (hlo : ((caseA.getD i (0, 0, 0, 0, 0)).1 : Int) ≤ (k : Int)) (c : Nat) (hc : c < 3) : convertR c (k : Int) (caseA.getD i (0, 0, 0, 0, 0)) = (((convertR c (k : Int) (caseA.getD i (0, 0, 0, 0, 0))).toNat : Nat) : Int) := by
  have hm : caseA.getD i (0, 0, 0, 0, 0) ∈ Plain.flatC Plain.caseC := by
    rw [Plain.caseC_flat]
    have gi : caseA.toList[i]? = some (caseA.getD i (0, 0, 0, 0, 0)) := by simp [Array.getD, hil]
    exact List.mem_of_getElem? gi
  have := Plain.convert_nonneg (List.all_eq_true.1 Plain.rows_nonneg _ hm) hc (r := k) (by omega)
  omega
/-- What the case ranges say of k is the plain function's. -/
theorem foldCase_eq (k : Nat) : (match lookupIdx caseA (k : Int) (caseA.size + 1) 0 caseA.size with | some i => (if convertR 1 (k : Int) (caseA.getD i (0, 0, 0, 0, 0)) = (k : Int) then convertR 0 (k : Int) (caseA.getD i (0, 0, 0, 0, 0)) else convertR 1 (k : Int) (caseA.getD i (0, 0, 0, 0, 0))) | none => (k : Int)) = ((Plain.foldCase k : Nat) : Int) := by
  have h := Plain.lookupGo_eq caseA Plain.caseC Plain.caseC_flat Plain.caseC_sorted Plain.caseA_sorted k
  unfold lookupGo at h
  unfold Plain.foldCase
  rw [← h]
  cases hli : lookupIdx caseA (k : Int) (caseA.size + 1) 0 caseA.size with
  | none => rfl
  | some i =>
    obtain ⟨hil, hlo, _⟩ := lookupIdx_some caseA _ _ _ _ i hli
    have e1 := convert_nat i k hil hlo 1 (by omega)
    have e0 := convert_nat i k hil hlo 0 (by omega)
    simp only [Option.map_some]
    generalize convertR 1 (k : Int) (caseA.getD i (0, 0, 0, 0, 0)) = l1 at e1 ⊢
    generalize convertR 0 (k : Int) (caseA.getD i (0, 0, 0, 0, 0)) = l0 at e0 ⊢
    by_cases hc : l1 = (k : Int)
    · have hb : Nat.beq l1.toNat k = true := by rw [Nat.beq_eq]; omega
      rw [if_pos hc, hb, cond_true]; exact e0
    · have hb : Nat.beq l1.toNat k = false := by rw [← Bool.not_eq_true, Nat.beq_eq]; omega
      rw [if_neg hc, hb, cond_false]; exact e1
structure FoldTabs (w : World) : Prop where
  asc : AscIs w
  orb : OrbIs w
  case : CaseVar 2 caseA w
/-- unicode.SimpleFold answers the plain function. -/
theorem uniFold_any (r : Int) (w : World) (hT : FoldTabs w) : Calls Tryd.prog 27 #[.int .i32 r] w fun e w' => e = .returned (.int .i32 (Plain.foldI r)) ∧ ∃ q, w.drewN q = w' := by
  by_cases hv : 0 ≤ r ∧ r ≤ 1114111
  · obtain ⟨k, rfl⟩ : ∃ k : Nat, r = k := ⟨r.toNat, by omega⟩
    rw [foldZ_nat (by omega)]
    unfold Plain.foldN
    by_cases ha : k ≤ 127
    · rw [Nat.ble_eq_true_of_le ha, cond_true]
      exact (fold_ascii k w ha hT.asc).mono fun e w' ⟨he, hw⟩ => ⟨he, 0, hw⟩
    · have hb : Nat.ble k 127 = false := by rw [← Bool.not_eq_true, Nat.ble_eq]; exact ha
      rw [hb, cond_false]
      cases hf : Plain.findC Prod.fst Prod.fst k Plain.orbitC with
      | some p =>
        obtain ⟨hm, hl, hh⟩ := Plain.findC_some hf
        rw [Plain.orbitC_flat] at hm
        obtain ⟨j, hj⟩ := List.mem_iff_getElem?.1 hm
        have hj94 : j < 94 := by
          have := (List.getElem?_eq_some_iff.1 hj).1
          rw [orb_len] at this
          exact this
        have e : orbAt j = p := by
          have := orbAt_get j hj94
          rw [hj] at this
          exact (Option.some.inj this).symm
        exact (fold_hit k j p.2 w (by omega) (by omega) hj94 (by rw [e]; omega) (by rw [e]) hT.orb).mono fun e w' ⟨he, hw⟩ => ⟨he, 0, hw⟩
      | none =>
        have hno : ∀ i, i < 94 → (orbAt i).1 ≠ k := fun i hi he =>
          Plain.findC_none Plain.orbitC_sorted hf (orbAt i) (by rw [Plain.orbitC_flat]; exact List.mem_of_getElem? (orbAt_get i hi)) ⟨by omega, by omega⟩
        exact fold_miss k w (by omega) (by omega) hno hT.orb _ hT.case (foldCase_eq k).symm
  · rw [foldZ_far hv]
    exact (fold_far r w hv).mono fun e w' ⟨he, hw⟩ => ⟨he, 0, hw⟩
theorem foldTabs_drewN {w : World} (h : FoldTabs w) (q : Nat) : FoldTabs (w.drewN q) := ⟨h.asc, h.orb, h.case⟩
theorem caseVar_later {g : Nat} {T : Array CaseRow} {w w' : World} (h : CaseVar g T w) (hb : Below w.heap.size w w') : CaseVar g T w' := by
  obtain ⟨R, oR, cap, hg, hT⟩ := h
  refine ⟨R, oR, cap, cell_later hb hg, fun i hi => ?_⟩
  obtain ⟨c0, c1, c2, c3, c4⟩ := hT i hi
  exact ⟨cell_later hb c0, cell_later hb c1, cell_later hb c2, cell_later hb c3, cell_later hb c4⟩
theorem foldTabs_below {w w' : World} (h : FoldTabs w) (hb : Below w.heap.size w w') : FoldTabs w' := ⟨asc_below h.asc hb, orb_below h.orb hb, caseVar_later h.case hb⟩
/-- The thin package's SimpleFold, as laws take it. -/
def FoldPost (z : Int) (w : World) (e : Ending) (w' : World) : Prop := e = .returned (.int .i32 z) ∧ FoldTabs w' ∧ Below w.heap.size w w'
theorem mapFold (r : Int) (w : World) (hT : FoldTabs w) : Calls Tryd.prog 16 #[.int .i32 r] w (FoldPost (Plain.foldI r) w) := by
  have C := Lib.hid (uniFold_any r w hT)
  have HT := Lib.hid hT
  clear hT
  go_enter Tryd.func16, Tryd.ntmps16
  go_wp2_with fail
  refine C.out.mono ?_
  rintro e w' ⟨rfl, q, rfl⟩
  go_wp2
  go_ret
  exact ⟨rfl, foldTabs_drewN HT.out q, bel_drewN (Below.refl _ _) q⟩
theorem caseXf : CaseExtra Tryd.prog Tryd.lays262_ren := ⟨by kernel_rfl, by kernel_rfl, by kernel_rfl, by kernel_rfl, by kernel_rfl, by kernel_rfl⟩
theorem foldTabs_of_laid {w : World} {l : List (String × DataW Unit)} (hL : laidMet Tryd.prog l w) (h1 : ("unicode.asciiFold", (Rows.laid_unicode_asciiFold : DataW Unit)) ∈ l) (h2 : ("unicode.caseOrbit", (Rows.laid_unicode_caseOrbit : DataW Unit)) ∈ l) (h3 : ("unicode.CaseRanges", Go.Pinned.caseRanges) ∈ l) : FoldTabs w :=
  ⟨asc_of_laid hL h1, orb_of_laid hL h2, caseVar_of_reads (ρ := Tryd.lays262_ren) { Tryd.lays262 with } (by kernel_rfl) caseXf (Pinned.caseRanges_eq ▸ Lib.laidMet.reads hL h3)⟩
theorem bel_trans3 {w w1 w2 : World} (h : Below w.heap.size w w1) (k : Below w1.heap.size w1 w2) : Below w.heap.size w w2 := h.trans (k.mono h.size)
end Go.Proofs.YtfdbcjdkikmjiaaDoor
