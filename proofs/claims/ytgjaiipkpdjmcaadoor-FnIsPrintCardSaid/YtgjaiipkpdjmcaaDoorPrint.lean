/-
  WALKS of unicode.IsPrint, the thin package's and the reference's IsPrint at the first 256 numbers: each answers 'from 32 to 126, or from 161 to 255 but 173'. The ranges beyond are not read there.
-/
import Derived.Test.YtgjaiipkpdjmcaaDoorProps
import Derived.Test.YtgjaiipkpdjmcaaDoorSpecBase
namespace Go.Proofs.YtgjaiipkpdjmcaaDoor
open Go.RowKit Go.Lib
set_option linter.unusedVariables false

def prB (r : Int) : Bool := decide ((32 ≤ r ∧ r ≤ 126) ∨ (161 ≤ r ∧ r ≤ 255 ∧ r ≠ 173))
theorem pr_props : ((List.range 256).all fun k => (bits .and .u8 (propertiesTab.getD k 0) 128 != 0) == prB (k : Int)) = true := by kernel_rfl
theorem pr_at (k : Nat) (hk : k < 256) : (bits .and .u8 (propertiesTab.getD k 0) 128 != 0) = prB (k : Int) := eq_of_beq (List.all_eq_true.1 pr_props k (List.mem_range.2 hk))
theorem specPrint_any (r : Int) (w : World) (h0 : 0 ≤ r) (h1 : r ≤ 255) : Calls Tryd.prog 7 #[.int .i32 r] w fun e w' => e = .returned (.bool (prB r)) ∧ w = w' := by
  rcases (by omega : r < 32 ∨ (32 ≤ r ∧ r ≤ 126) ∨ (127 ≤ r ∧ r ≤ 160) ∨ (161 ≤ r ∧ r ≤ 172) ∨ r = 173 ∨ (174 ≤ r ∧ r ≤ 255)) with h | h | h | h | h | h
  all_goals
    go_enter Tryd.func7, Tryd.ntmps7
    go_wp2
    go_ret
    exact ⟨ret_bool (by unfold prB; first | (symm; apply decide_eq_true; omega) | (symm; apply decide_eq_false; omega) | (rw [Bool.eq_iff_iff]; simp; omega)), rfl⟩
theorem uniPrint_any (r : Int) (w : World) (h0 : 0 ≤ r) (h1 : r ≤ 255) (hP : PropsIs w) :
    Calls Tryd.prog 10 #[.int .i32 r] w fun e w' => e = .returned (.bool (prB r)) ∧ w = w' := by
  obtain ⟨k, rfl⟩ : ∃ k : Nat, r = k := ⟨r.toNat, by omega⟩
  have hc := hP k (by omega)
  have HE := Lib.hid (pr_at k (by omega))
  have hk : (k : Int) ≤ 255 := h1
  generalize propertiesTab.getD k 0 = z at hc HE
  clear hP
  go_enter Tryd.func10, Tryd.ntmps10
  go_wp2
  go_ret
  exact ⟨ret_bool HE.out, rfl⟩
theorem implPrint_any (r : Int) (w : World) (h0 : 0 ≤ r) (h1 : r ≤ 255) (hP : PropsIs w) :
    Calls Tryd.prog 6 #[.int .i32 r] w fun e w' => e = .returned (.bool (prB r)) ∧ w = w' := by
  have C := Lib.hid (uniPrint_any r w h0 h1 hP)
  clear hP
  go_enter Tryd.func6, Tryd.ntmps6
  go_wp2_with fail
  refine C.out.mono ?_
  rintro e w' ⟨rfl, rfl⟩
  go_wp2
  go_ret
  exact ⟨rfl, rfl⟩
end Go.Proofs.YtgjaiipkpdjmcaaDoor
