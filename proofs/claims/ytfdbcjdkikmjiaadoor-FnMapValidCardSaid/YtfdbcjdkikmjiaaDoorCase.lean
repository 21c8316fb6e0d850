/-
  WALKS of the thin package's ToUpper, ToLower, ToTitle over the library's own: each answers its plain function of the number, at every number; nothing is written.
-/
import Derived.Test.YtfdbcjdkikmjiaaDoorShelf
import Derived.Test.YtfdbcjdkikmjiaaDoorPick
import Derived.Lib.LaidCase
import Derived.PinnedBridge
import Derived.Lib.Hide
import Derived.WalkKit
import Derived.WalkSpells
namespace Go.Proofs.YtfdbcjdkikmjiaaDoor
open Go.RowKit Go.Lib Go.Shelf
set_option linter.unusedVariables false

theorem cells_later {w w' : World} (hb : Below w.heap.size w w') {a : Addr} {v : Value} (h : w.cell? a = some v) : w'.cell? a = some v := cell_later hb h
theorem caseVar_below {g : Nat} {T : Array CaseRow} {w w' : World} (h : CaseVar g T w) (hb : Below w.heap.size w w') : CaseVar g T w' := by
  obtain ⟨R, oR, cap, hg, hT⟩ := h
  refine ⟨R, oR, cap, cells_later hb hg, fun i hi => ?_⟩
  obtain ⟨c0, c1, c2, c3, c4⟩ := hT i hi
  exact ⟨cells_later hb c0, cells_later hb c1, cells_later hb c2, cells_later hb c3, cells_later hb c4⟩
theorem caseVar_drewN {g : Nat} {T : Array CaseRow} {w : World} (h : CaseVar g T w) (q : Nat) : CaseVar g T (w.drewN q) := h
theorem caseX : CaseExtra Tryd.prog Tryd.lays262_ren := ⟨by kernel_rfl, by kernel_rfl, by kernel_rfl, by kernel_rfl, by kernel_rfl, by kernel_rfl⟩
/-- What a row's list gives: the variable holds the table. -/
theorem caseVar_of_laid {w : World} {l : List (String × DataW Unit)} (hL : laidMet Tryd.prog l w) (hm : ("unicode.CaseRanges", Go.Pinned.caseRanges) ∈ l) : CaseVar 2 caseA w :=
  caseVar_of_reads (ρ := Tryd.lays262_ren) { Tryd.lays262 with } (by kernel_rfl) caseX (Pinned.caseRanges_eq ▸ Lib.laidMet.reads hL hm)
theorem implToUpper_any (r : Int) (w : World) (hV : CaseVar 2 caseA w) :
    Calls Tryd.prog 21 #[.int .i32 r] w fun e w' => e = .returned (.int .i32 (toUpperU r)) ∧ ∃ q, w.drewN q = w' := by
  have C := Lib.hid (Tryd.unicode_ToUpper_laid r w hV)
  clear hV
  go_enter Tryd.func21, Tryd.ntmps21
  go_wp2_with fail
  refine C.out.mono ?_
  rintro e w' ⟨rfl, q, rfl⟩
  go_wp2
  go_ret
  exact ⟨rfl, q, rfl⟩
theorem implToLower_any (r : Int) (w : World) (hV : CaseVar 2 caseA w) :
    Calls Tryd.prog 22 #[.int .i32 r] w fun e w' => e = .returned (.int .i32 (toLowerU r)) ∧ ∃ q, w.drewN q = w' := by
  have C := Lib.hid (Tryd.unicode_ToLower_laid r w hV)
  clear hV
  go_enter Tryd.func22, Tryd.ntmps22
  go_wp2_with fail
  refine C.out.mono ?_
  rintro e w' ⟨rfl, q, rfl⟩
  go_wp2
  go_ret
  exact ⟨rfl, q, rfl⟩

theorem uniTitle_any (r : Int) (w : World) (hV : CaseVar 2 caseA w) :
    Calls Tryd.prog 35 #[.int .i32 r] w fun e w' => e = .returned (.int .i32 (toTitleU r)) ∧ ∃ q, w' = w.drewN q := by
  have cT := Tryd.unicode_To 2 (by omega) r caseA w hV caseA_ok2 (by rw [caseA_size]; omega)
  rw [toW_caseA 2 (by omega)] at cT
  unfold toTitleU
  have C := Lib.hid cT
  clear cT hV
  by_cases h1 : r ≤ 127
  · by_cases h2 : 97 ≤ r
    · by_cases h3 : r ≤ 122
      · go_enter Tryd.func35, Tryd.ntmps35
        go_wp2
        go_ret
        exact ⟨by first | rfl | simp, 0, rfl⟩
      · go_enter Tryd.func35, Tryd.ntmps35
        go_wp2
        go_ret
        exact ⟨by first | rfl | simp, 0, rfl⟩
    · go_enter Tryd.func35, Tryd.ntmps35
      go_wp2
      go_ret
      exact ⟨by first | rfl | simp, 0, rfl⟩
  · go_enter Tryd.func35, Tryd.ntmps35
    go_wp2_with fail
    refine C.out.mono ?_
    rintro e w' ⟨rfl, q, rfl⟩
    go_wp2
    go_ret
    exact ⟨by first | rfl | simp, q, rfl⟩
theorem implToTitle_any (r : Int) (w : World) (hV : CaseVar 2 caseA w) :
    Calls Tryd.prog 23 #[.int .i32 r] w fun e w' => e = .returned (.int .i32 (toTitleU r)) ∧ ∃ q, w.drewN q = w' := by
  have C := Lib.hid (uniTitle_any r w hV)
  clear hV
  go_enter Tryd.func23, Tryd.ntmps23
  go_wp2_with fail
  refine C.out.mono ?_
  rintro e w' ⟨rfl, q, rfl⟩
  go_wp2
  go_ret
  exact ⟨rfl, q, rfl⟩
/-- The same, as laws take them: the world behind the call holds the table still; nothing that lay is changed. -/
def MapPost (z : Int) (w : World) (e : Ending) (w' : World) : Prop := e = .returned (.int .i32 z) ∧ CaseVar 2 caseA w' ∧ Below w.heap.size w w'
theorem mapUp (r : Int) (w : World) (hV : CaseVar 2 caseA w) : Calls Tryd.prog 21 #[.int .i32 r] w (MapPost (toUpperU r) w) :=
  (implToUpper_any r w hV).mono fun _ _ ⟨he, q, hw⟩ => hw ▸ ⟨he, caseVar_drewN hV q, bel_drewN (Below.refl _ _) q⟩
theorem mapLow (r : Int) (w : World) (hV : CaseVar 2 caseA w) : Calls Tryd.prog 22 #[.int .i32 r] w (MapPost (toLowerU r) w) :=
  (implToLower_any r w hV).mono fun _ _ ⟨he, q, hw⟩ => hw ▸ ⟨he, caseVar_drewN hV q, bel_drewN (Below.refl _ _) q⟩
theorem mapTit (r : Int) (w : World) (hV : CaseVar 2 caseA w) : Calls Tryd.prog 23 #[.int .i32 r] w (MapPost (toTitleU r) w) :=
  (implToTitle_any r w hV).mono fun _ _ ⟨he, q, hw⟩ => hw ▸ ⟨he, caseVar_drewN hV q, bel_drewN (Below.refl _ _) q⟩
/-- What was below the heap's end before both is so behind both. -/
theorem bel_trans {w w1 w2 : World} (h : Below w.heap.size w w1) (k : Below w1.heap.size w1 w2) : Below w.heap.size w w2 := h.trans (k.mono h.size)
end Go.Proofs.YtfdbcjdkikmjiaaDoor
