/-
  WALK of the reference's DrawNothing: whatever bytes the input holds, it answers some number of 32 bits. Nothing that lay before the call is changed.
-/
import Derived.Test.YtfdbcjdkikmjiaaDoorPick
namespace Go.Proofs.YtfdbcjdkikmjiaaDoor
open Go.RowKit
set_option linter.unusedVariables false
set_option maxHeartbeats 1000000 in
set_option maxRecDepth 100000 in
theorem drawNothing_any {n : Nat} {v : Value} {w : World} (hC : CodeIs w.heap.size v n w) (hn : n ≤ 1048576) :
    Calls Tryd.prog 25 #[v] w (RunePost w.heap.size w) := by
  have HC := Lib.hid hC
  obtain ⟨a, cap, rfl⟩ := hC.1
  clear hC
  go_enter Tryd.func25, Tryd.ntmps25
  go_wp2_with fail
  refine (pick_any (m := 256) (rd_new _ _) (HC.out.alloc (Nat.le_refl _) _) (by omega) (by omega) (by omega) hn).mono ?_
  rintro e w1 ⟨k1, hk1, rfl, hR1, hb1, -⟩
  have HC1 := Lib.hid ((HC.out.alloc (Nat.le_refl _) _).below hb1)
  have HR1 := Lib.hid hR1
  have HB1 := Lib.hid (((Below.refl _ _).alloc (Nat.le_refl _) _).trans hb1)
  clear hR1 hb1 HC
  go_wp2_with fail
  refine (pick_any (m := 256) HR1.out HC1.out (by omega) (by omega) (by omega) hn).mono ?_
  rintro e w2 ⟨k2, hk2, rfl, hR2, hb2, -⟩
  have HC2 := Lib.hid (HC1.out.below hb2)
  have HR2 := Lib.hid hR2
  have HB2 := Lib.hid (HB1.out.trans hb2)
  clear hR2 hb2 HR1 HB1 HC1
  go_wp2_with fail
  refine (pick_any (m := 8) HR2.out HC2.out (by omega) (by omega) (by omega) hn).mono ?_
  rintro e w3 ⟨k3, hk3, rfl, hR3, hb3, -⟩
  have HC3 := Lib.hid (HC2.out.below hb3)
  have HR3 := Lib.hid hR3
  have HB3 := Lib.hid (HB2.out.trans hb3)
  clear hR3 hb3 HR2 HB2 HC2
  go_wp2_with fail
  · go_ret
    exact ⟨_, by omega, by omega, rfl, HB3.out⟩
  · go_ret
    exact ⟨_, by omega, by omega, rfl, HB3.out⟩
  · refine (pick_any (m := 17) HR3.out HC3.out (by omega) (by omega) (by omega) hn).mono ?_
    rintro e w4 ⟨k4, hk4, rfl, hR4, hb4, -⟩
    have HB4 := Lib.hid (HB3.out.trans hb4)
    clear hR4 hb4
    go_wp2
    go_ret
    exact ⟨_, by omega, by omega, rfl, HB4.out⟩
  · go_ret
    exact ⟨_, by omega, by omega, rfl, HB3.out⟩
  · go_ret
    exact ⟨_, by omega, by omega, rfl, HB3.out⟩
  · go_ret
    exact ⟨_, by omega, by omega, rfl, HB3.out⟩
  · go_ret
    exact ⟨_, by omega, by omega, rfl, HB3.out⟩
  · go_ret
    exact ⟨_, by omega, by omega, rfl, HB3.out⟩
end Go.Proofs.YtfdbcjdkikmjiaaDoor
