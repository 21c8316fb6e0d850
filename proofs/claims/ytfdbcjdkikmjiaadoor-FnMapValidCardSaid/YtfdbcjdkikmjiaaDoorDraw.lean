/-
  WALKS of the reference's drawing functions: whatever bytes the input holds, Draw answers some number of 32 bits. Nothing that lay before the call is changed.
-/
import Derived.Test.YtfdbcjdkikmjiaaDoorPick
namespace Go.Proofs.YtfdbcjdkikmjiaaDoor
open Go.RowKit
set_option linter.unusedVariables false

theorem u32_range (x : Int) : 0 ≤ IntKind.u32.wrap x ∧ IntKind.u32.wrap x ≤ 4294967295 := by
  simp [IntKind.wrap, IntKind.bits, IntKind.signed]
  omega

/-! ### number -/
def U32Post (w : World) (e : Ending) (w' : World) : Prop := ∃ z : Int, 0 ≤ z ∧ z ≤ 4294967295 ∧ e = .returned (.int .u32 z) ∧ w = w'
set_option maxHeartbeats 400000 in
theorem number_any (b off n cap : Nat) (w : World) (hn : n ≤ 1048576) (hc : ∀ k, k < n → ∃ z : Int, 0 ≤ z ∧ z ≤ 255 ∧ w.cell? ⟨b, off + k, none⟩ = some (.int .u8 z)) :
    Calls Tryd.prog 30 #[.slice (some ⟨b, off, none⟩) n cap] w (U32Post w) := by
  have HC := Lib.hid hc
  clear hc
  go_enter Tryd.func30, Tryd.ntmps30
  go_wp2
  go_loop [3, 4] (fun x i => ∃ (k : Nat) (z : Int), k ≤ n ∧ 0 ≤ z ∧ z ≤ 4294967295 ∧ i = .int .i64 k ∧ x = .int .u32 z) (fun _ i => n - (intOf i).toNat)
  case atStart => exact ⟨0, 0, Nat.zero_le _, by omega, by omega, rfl, rfl⟩
  case round =>
    obtain ⟨k, z, hk, hz0, hz1, rfl, rfl⟩ := hrel
    by_cases hlt : k < n
    · obtain ⟨y, hy0, hy1, hy⟩ := HC.out k hlt
      go_wp2
      go_round
      case rel => exact ⟨k + 1, _, by omega, by omega, by omega, by go_num, rfl⟩
      case measure => simp [intOf]; omega
    · go_wp2
      go_ret
      exact ⟨z, hz0, hz1, rfl, rfl⟩

/-! ### odd -/
def oddL : List Int := [0, 9, 13, 32, 48, 57, 65, 73, 75, 83, 90, 97, 105, 107, 115, 122, 127, 133, 160, 173, 181, 223, 229, 255, 304, 305, 376, 383, 452, 453, 454, 837, 912, 924, 956, 1012, 1632, 4304, 7296, 7312, 7838, 8126, 8147, 8192, 8203, 8232, 8486, 8490, 8491, 12288, 19968, 42570, 43888, 44032, 55203, 55296, 57343, 57344, 64261, 64976, 65279, 65533, 65534, 65535, 65536, 66560, 66600, 120782, 120831, 128512, 983040, 1114111, 1114112, 2147483647, -1, -2, -2147483648]
theorem cell_list (w w1 : World) (L : List Int) (t : TypeId) (cs : Array Value) (hcs : cs = (L.map (Value.int .i32)).toArray) (hr : (L.all fun z => decide (-2147483648 ≤ z ∧ z ≤ 2147483647)) = true) (i : Nat) (hi : i < L.length)
    (h : w1.cell? ⟨w.heap.size, i, none⟩ = (w.alloc (.cells cs t)).cell? ⟨w.heap.size, i, none⟩) : ∃ z : Int, -2147483648 ≤ z ∧ z ≤ 2147483647 ∧ w1.cell? ⟨w.heap.size, i, none⟩ = some (.int .i32 z) := by
  have hz := List.all_eq_true.1 hr L[i] (List.getElem_mem hi)
  simp only [decide_eq_true_eq] at hz
  refine ⟨L[i], hz.1, hz.2, ?_⟩
  rw [h, hcs]
  rw [World.cell?_alloc_new]
  simp [hi]
set_option maxHeartbeats 400000 in
set_option maxRecDepth 100000 in
theorem odd_any {B p n : Nat} {v : Value} {w : World} (hR : Rd B v p w) (hC : CodeIs B v n w) (hp : p ≤ 900) (hn : n ≤ 1048576) :
    Calls Tryd.prog 41 #[.pointer (some ⟨B, 0, none⟩)] w fun e w' => ∃ r : Int, -2147483648 ≤ r ∧ r ≤ 2147483647 ∧ e = .returned (.int .i32 r) ∧ Rd B v (p + 1) w' ∧ Below B w w' := by
  have HR := Lib.hid hR
  have HC := Lib.hid hC
  have hBw := hR.lt
  clear hR hC
  go_enter Tryd.func41, Tryd.ntmps41
  go_wp2_with fail
  refine (pick_any (m := 77) (HR.out.alloc _) (HC.out.alloc (Nat.le_of_lt hBw) _) (by omega) (by omega) (by omega) hn).mono ?_
  rintro e w1 ⟨k, hk, rfl, hR1, hb1, hfar⟩
  obtain ⟨z, hz0, hz1, hz⟩ := cell_list w w1 oddL _ _ rfl (by decide) k hk (hfar _ (by simp; omega))
  have HR1 := Lib.hid hR1
  have HB1 := Lib.hid hb1
  clear hR1 hb1 hfar
  go_wp2
  go_ret
  exact ⟨z, hz0, hz1, rfl, HR1.out, ((Below.refl _ _).alloc (Nat.le_of_lt hBw) _).trans HB1.out⟩

/-! ### some -/
set_option maxHeartbeats 1000000 in
set_option maxRecDepth 100000 in
theorem some_any {B n : Nat} {v : Value} {w : World} (hR : Rd B v 0 w) (hC : CodeIs B v n w) (hn : n ≤ 1048576) :
    Calls Tryd.prog 31 #[.pointer (some ⟨B, 0, none⟩)] w (RunePost B w) := by
  have HR := Lib.hid hR
  have HC := Lib.hid hC
  clear hR hC
  go_enter Tryd.func31, Tryd.ntmps31
  go_wp2_with fail
  refine (pick_any (m := 256) HR.out HC.out (by omega) (by omega) (by omega) hn).mono ?_
  rintro e w1 ⟨k1, hk1, rfl, hR1, hb1, -⟩
  have HC1 := Lib.hid (HC.out.below hb1)
  have HR1 := Lib.hid hR1
  have HB1 := Lib.hid hb1
  clear hR1 hb1 HR
  go_wp2_with fail
  refine (pick_any (m := 256) HR1.out HC1.out (by omega) (by omega) (by omega) hn).mono ?_
  rintro e w2 ⟨k2, hk2, rfl, hR2, hb2, -⟩
  have HC2 := Lib.hid (HC1.out.below hb2)
  have HR2 := Lib.hid hR2
  have HB2 := Lib.hid (HB1.out.trans hb2)
  clear hR2 hb2 HR1 HB1 HC1
  go_wp2_with fail
  refine (pick_any (m := 10) HR2.out HC2.out (by omega) (by omega) (by omega) hn).mono ?_
  rintro e w3 ⟨k3, hk3, rfl, hR3, hb3, -⟩
  have HC3 := Lib.hid (HC2.out.below hb3)
  have HR3 := Lib.hid hR3
  have HB3 := Lib.hid (HB2.out.trans hb3)
  clear hR3 hb3 HR2 HB2 HC2
  go_wp2_with fail
  · refine (odd_any HR3.out HC3.out (by omega) hn).mono ?_
    rintro e w4 ⟨r4, hr0, hr1, rfl, hR4, hb4⟩
    have HC4 := Lib.hid (HC3.out.below hb4)
    have HR4 := Lib.hid hR4
    have HB4 := Lib.hid (HB3.out.trans hb4)
    clear hR4 hb4
    go_wp2_with fail
    refine (pick_any (m := 3) HR4.out HC4.out (by omega) (by omega) (by omega) hn).mono ?_
    rintro e w5 ⟨k5, hk5, rfl, hR5, hb5, -⟩
    have HB5 := Lib.hid (HB4.out.trans hb5)
    clear hR5 hb5
    go_wp2
    go_ret
    exact ⟨_, (wrap32_lo _).1, (wrap32_lo _).2, rfl, HB5.out⟩
  · refine (odd_any HR3.out HC3.out (by omega) hn).mono ?_
    rintro e w4 ⟨r4, hr0, hr1, rfl, hR4, hb4⟩
    have HC4 := Lib.hid (HC3.out.below hb4)
    have HR4 := Lib.hid hR4
    have HB4 := Lib.hid (HB3.out.trans hb4)
    clear hR4 hb4
    go_wp2_with fail
    refine (pick_any (m := 3) HR4.out HC4.out (by omega) (by omega) (by omega) hn).mono ?_
    rintro e w5 ⟨k5, hk5, rfl, hR5, hb5, -⟩
    have HB5 := Lib.hid (HB4.out.trans hb5)
    clear hR5 hb5
    go_wp2
    go_ret
    exact ⟨_, (wrap32_lo _).1, (wrap32_lo _).2, rfl, HB5.out⟩
  · go_ret
    exact ⟨_, by omega, by omega, rfl, HB3.out⟩
  · go_ret
    exact ⟨_, by omega, by omega, rfl, HB3.out⟩
  · go_ret
    exact ⟨_, by omega, by omega, rfl, HB3.out⟩
  · go_ret
    exact ⟨_, by omega, by omega, rfl, HB3.out⟩
  · go_ret
    exact ⟨_, by omega, by omega, rfl, HB3.out⟩
  · refine (pick_any (m := 17) HR3.out HC3.out (by omega) (by omega) (by omega) hn).mono ?_
    rintro e w4 ⟨k4, hk4, rfl, hR4, hb4, -⟩
    have HB4 := Lib.hid (HB3.out.trans hb4)
    clear hR4 hb4
    go_wp2
    go_ret
    exact ⟨_, by omega, by omega, rfl, HB4.out⟩
  · refine (pick_any (m := 256) HR3.out HC3.out (by omega) (by omega) (by omega) hn).mono ?_
    rintro e w4 ⟨k4, hk4, rfl, hR4, hb4, -⟩
    have HC4 := Lib.hid (HC3.out.below hb4)
    have HR4 := Lib.hid hR4
    have HB4 := Lib.hid (HB3.out.trans hb4)
    clear hR4 hb4
    go_wp2_with fail
    refine (pick_any (m := 256) HR4.out HC4.out (by omega) (by omega) (by omega) hn).mono ?_
    rintro e w5 ⟨k5, hk5, rfl, hR5, hb5, -⟩
    have HB5 := Lib.hid (HB4.out.trans hb5)
    clear hR5 hb5
    go_wp2
    go_ret
    exact ⟨_, (wrap32_lo _).1, (wrap32_lo _).2, rfl, HB5.out⟩
  · go_ret
    exact ⟨_, by omega, by omega, rfl, HB3.out⟩

/-! ### Draw -/
set_option maxHeartbeats 400000 in
theorem draw_some {n : Nat} {v : Value} {w : World} (hC : CodeIs w.heap.size v n w) (hn : n ≤ 1048576) (h5 : ((n : Int) == 5) = false) :
    Calls Tryd.prog 18 #[v] w (RunePost w.heap.size w) := by
  have HC := Lib.hid hC
  obtain ⟨a, cap, rfl⟩ := hC.1
  clear hC
  go_enter Tryd.func18, Tryd.ntmps18
  go_wp2_with fail
  refine (some_any (rd_new _ _) (HC.out.alloc (Nat.le_refl _) _) hn).mono ?_
  rintro e w1 ⟨r, hr0, hr1, rfl, hb1⟩
  have HB1 := Lib.hid hb1
  clear hb1
  go_wp2
  go_ret
  exact ⟨r, hr0, hr1, rfl, ((Below.refl _ _).alloc (Nat.le_refl _) _).trans HB1.out⟩
set_option maxHeartbeats 400000 in
theorem draw_five {v : Value} {w : World} (hC : CodeIs w.heap.size v 5 w) :
    Calls Tryd.prog 18 #[v] w (RunePost w.heap.size w) := by
  have HC := Lib.hid hC
  obtain ⟨b, off, cap, hlt, hcap1, hcap2, rfl, hc⟩ := hC.2 (by omega)
  clear hC
  have HCC := Lib.hid hc
  obtain ⟨z, hz0, hz1, hz⟩ := hc 0 (by omega)
  simp only [Nat.add_zero] at hz
  have hne : ¬ cap = 1 := by omega
  unfold maxLen at hcap2
  clear hc
  by_cases h4 : z % 4 = 0
  · have h4b : (z % 4 == 0) = true := by simp [h4]
    clear h4
    go_enter Tryd.func18, Tryd.ntmps18
    go_wp2_with fail
    refine (number_any b (off + 1) 4 (cap - 1) w (by omega) (fun k hk => by
      obtain ⟨y, hy0, hy1, hy⟩ := HCC.out (k + 1) (by omega)
      exact ⟨y, hy0, hy1, by rw [show off + 1 + k = off + (k + 1) by omega]; exact hy⟩)).mono ?_
    rintro e w1 ⟨y, hy0, hy1, rfl, rfl⟩
    go_wp2
    go_ret
    exact ⟨_, (wrap32_lo _).1, (wrap32_lo _).2, rfl, Below.refl _ _⟩
  · have h4b : (z % 4 == 0) = false := by simp [h4]
    clear h4
    go_enter Tryd.func18, Tryd.ntmps18
    go_wp2_with fail
    refine (some_any (rd_new _ _) (HC.out.alloc (Nat.le_refl _) _) (by omega)).mono ?_
    rintro e w1 ⟨r, hr0, hr1, rfl, hb1⟩
    have HB1 := Lib.hid hb1
    clear hb1
    go_wp2
    go_ret
    exact ⟨r, hr0, hr1, rfl, ((Below.refl _ _).alloc (Nat.le_refl _) _).trans HB1.out⟩
/-- Draw answers some number of 32 bits. -/
theorem draw_any {n : Nat} {v : Value} {w : World} (hC : CodeIs w.heap.size v n w) (hn : n ≤ 1048576) : Calls Tryd.prog 18 #[v] w (RunePost w.heap.size w) := by
  by_cases h : n = 5
  · subst h; exact draw_five hC
  · exact draw_some hC hn (by simp; omega)
end Go.Proofs.YtfdbcjdkikmjiaaDoor
