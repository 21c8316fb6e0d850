/-
  WALKS of unicode.IsControl, the thin package's and the reference's IsControl: each answers 'from 0 to 31 or from 127 to 159', at every number; nothing is written.
-/
import Derived.Test.YtlpdnaifnnfpjaaDoorProps
namespace Go.Proofs.YtlpdnaifnnfpjaaDoor
open Go.RowKit Go.Lib
set_option linter.unusedVariables false

theorem retb {a b : Bool} (h : a = b) : Ending.returned (.bool a) = .returned (.bool b) := by rw [h]
def ctlB (r : Int) : Bool := decide ((0 ≤ r ∧ r ≤ 31) ∨ (127 ≤ r ∧ r ≤ 159))
theorem ctl_props : ((List.range 256).all fun k => (bits .and .u8 (propertiesTab.getD k 0) 1 != 0) == ctlB (k : Int)) = true := by kernel_rfl
theorem ctl_at (k : Nat) (hk : k < 256) : (bits .and .u8 (propertiesTab.getD k 0) 1 != 0) = ctlB (k : Int) := eq_of_beq (List.all_eq_true.1 ctl_props k (List.mem_range.2 hk))
theorem specControl_any (r : Int) (w : World) : Calls Tryd.prog 10 #[.int .i32 r] w fun e w' => e = .returned (.bool (ctlB r)) ∧ w = w' := by
  rcases (by omega : r < 0 ∨ (0 ≤ r ∧ r ≤ 31) ∨ (32 ≤ r ∧ r ≤ 126) ∨ (127 ≤ r ∧ r ≤ 159) ∨ 159 < r) with h | h | h | h | h
  all_goals
    go_enter Tryd.func10, Tryd.ntmps10
    go_wp2
    go_ret
    exact ⟨retb (by unfold ctlB; first | (symm; apply decide_eq_true; omega) | (symm; apply decide_eq_false; omega) | (rw [Bool.eq_iff_iff]; simp; omega)), rfl⟩
theorem uniControl_any (r : Int) (w : World) (h0 : -2147483648 ≤ r) (h1 : r ≤ 2147483647) (hP : PropsIs w) :
    Calls Tryd.prog 20 #[.int .i32 r] w fun e w' => e = .returned (.bool (ctlB r)) ∧ w = w' := by
  by_cases hl : 0 ≤ r ∧ r ≤ 255
  · obtain ⟨k, rfl⟩ : ∃ k : Nat, r = k := ⟨r.toNat, by omega⟩
    have hc := hP k (by omega)
    have HE := Lib.hid (ctl_at k (by omega))
    have hk : (k : Int) ≤ 255 := hl.2
    generalize propertiesTab.getD k 0 = z at hc HE
    clear hP hl
    go_enter Tryd.func20, Tryd.ntmps20
    go_wp2
    go_ret
    exact ⟨retb HE.out, rfl⟩
  · have e : ctlB r = false := by unfold ctlB; apply decide_eq_false; omega
    rw [e]
    clear e hP
    by_cases hn : r < 0
    · have hu := wrap_u32_neg h0 hn
      have hd : decide (r + 4294967296 ≤ 255) = false := by apply decide_eq_false; omega
      clear hl
      go_enter Tryd.func20, Tryd.ntmps20
      go_wp2
      go_ret
      exact ⟨rfl, rfl⟩
    · have hg : 255 < r := by omega
      clear hl
      go_enter Tryd.func20, Tryd.ntmps20
      go_wp2
      go_ret
      exact ⟨rfl, rfl⟩
theorem implControl_any (r : Int) (w : World) (h0 : -2147483648 ≤ r) (h1 : r ≤ 2147483647) (hP : PropsIs w) :
    Calls Tryd.prog 9 #[.int .i32 r] w fun e w' => e = .returned (.bool (ctlB r)) ∧ w = w' := by
  have C := Lib.hid (uniControl_any r w h0 h1 hP)
  clear hP
  go_enter Tryd.func9, Tryd.ntmps9
  go_wp2_with fail
  refine C.out.mono ?_
  rintro e w' ⟨rfl, rfl⟩
  go_wp2
  go_ret
  exact ⟨rfl, rfl⟩
end Go.Proofs.YtlpdnaifnnfpjaaDoor
