/-
  WALK of the reference's DrawLatin: whatever bytes the input holds, it answers one of the first 256 numbers. Nothing that lay before the call is changed.
-/
import Derived.Test.YtgjaiipkpdjmcaaDoorPick
namespace Go.Proofs.YtgjaiipkpdjmcaaDoor
open Go.RowKit
set_option linter.unusedVariables false
set_option maxHeartbeats 400000 in
theorem drawLatin_any {n : Nat} {v : Value} {w : World} (hC : CodeIs w.heap.size v n w) (hn : n ≤ 1048576) :
    Calls Tryd.prog 8 #[v] w (LatinPost w.heap.size w) := by
  have HC := Lib.hid hC
  obtain ⟨a, cap, rfl⟩ := hC.1
  clear hC
  go_enter Tryd.func8, Tryd.ntmps8
  go_wp2_with fail
  refine (pick_any (m := 256) (rd_new _ _) (HC.out.alloc (Nat.le_refl _) _) (by omega) (by omega) (by omega) hn).mono ?_
  rintro e w1 ⟨k, hk, rfl, hR1, hb1, -⟩
  have HB1 := Lib.hid hb1
  clear hR1 hb1
  go_wp2
  go_ret
  exact ⟨k, by omega, rfl, ((Below.refl _ _).alloc (Nat.le_refl _) _).trans HB1.out⟩
end Go.Proofs.YtgjaiipkpdjmcaaDoor
