/-
  WALKS of the thin package's IsDigit, IsLetter, IsUpper, IsSpace over the library's own (the shelf's contracts): each answers its plain function of the number, at every number; nothing that lay is changed.
-/
import Derived.Test.YtkgammnojgngfaaDoorShelf
import Derived.Test.YtkgammnojgngfaaDoorProps
import Derived.Test.YtkgammnojgngfaaDoorPick
import Derived.Lib.LaidRTab
import Derived.PinnedBridge
import Derived.Shelf.Unicode.PredsPay
import Derived.Shelf.Unicode.IsSpaceAny
namespace Go.Proofs.YtkgammnojgngfaaDoor
open Go.RowKit Go.Lib Go.Shelf
set_option linter.unusedVariables false

theorem xD : RExtra Tryd.prog Tryd.lays198_ren := ⟨by kernel_rfl, by kernel_rfl, by kernel_rfl, by kernel_rfl, by kernel_rfl, by kernel_rfl, by kernel_rfl, by kernel_rfl⟩
theorem xW : WhiteExtra Tryd.prog Tryd.lays199_ren := ⟨by kernel_rfl, by kernel_rfl, by kernel_rfl, by kernel_rfl, by kernel_rfl, by kernel_rfl, by kernel_rfl, by kernel_rfl⟩
theorem digit_of_laid {w : World} {l : List (String × DataW Unit)} (hL : laidMet Tryd.prog l w) (hm : ("unicode.Digit", Go.Pinned.digit) ∈ l) : RVar 0 digitT w :=
  rvar_of_reads (ρ := Tryd.lays198_ren) { Tryd.lays198 with } xD (by kernel_rfl) (by kernel_rfl) (Pinned.digit_eq ▸ Lib.laidMet.reads hL hm)
theorem letter_of_laid {w : World} {l : List (String × DataW Unit)} (hL : laidMet Tryd.prog l w) (hm : ("unicode.Letter", Go.Pinned.letter) ∈ l) : RVar 2 letterT w :=
  rvar_of_reads (ρ := Tryd.lays198_ren) { Tryd.lays198 with } xD (by kernel_rfl) (by kernel_rfl) (Pinned.letter_eq ▸ Lib.laidMet.reads hL hm)
theorem upper_of_laid {w : World} {l : List (String × DataW Unit)} (hL : laidMet Tryd.prog l w) (hm : ("unicode.Upper", Go.Pinned.upper) ∈ l) : RVar 3 upperT w :=
  rvar_of_reads (ρ := Tryd.lays198_ren) { Tryd.lays198 with } xD (by kernel_rfl) (by kernel_rfl) (Pinned.upper_eq ▸ Lib.laidMet.reads hL hm)
theorem white_of_laid {w : World} {l : List (String × DataW Unit)} (hL : laidMet Tryd.prog l w) (hm : ("unicode.White_Space", (Rows.laid_unicode_White_Space : DataW Unit)) ∈ l) : WhiteTab 4 w :=
  whiteTab_of_reads (ρ := Tryd.lays199_ren) Tryd.lays199 xW ((show (Rows.laid_unicode_White_Space : DataW Unit) = whiteData by kernel_rfl) ▸ Lib.laidMet.reads hL hm)
def PropTab (w : World) : Prop := TabIs Tryd.prog w "unicode.properties" .u8 propertiesTab
theorem propTab_below {w w' : World} (h : PropTab w) (hb : Below w.heap.size w w') : PropTab w' := TabIs_below (show Tryd.prog.globalNamed "unicode.properties" = some 1 by kernel_rfl) h hb
def BoolPost (b : Bool) (w : World) (e : Ending) (w' : World) : Prop := e = .returned (.bool b) ∧ Below w.heap.size w w'
theorem isDigit_any (r : Int) (w : World) (h0 : -2147483648 ≤ r) (h1 : r ≤ 2147483647) (hV : RVar 0 digitT w) : Calls Tryd.prog 14 #[.int .i32 r] w (BoolPost (isDigitU r) w) := by
  have C := Lib.hid (Tryd.unicode_IsDigit_all r w h0 h1 hV)
  clear hV
  go_enter Tryd.func14, Tryd.ntmps14
  go_wp2_with fail
  refine C.out.mono ?_
  rintro e w' ⟨rfl, hb⟩
  have HB := Lib.hid hb
  clear hb
  go_wp2
  go_ret
  exact ⟨rfl, HB.out⟩
theorem isLetter_any (r : Int) (w : World) (h0 : -2147483648 ≤ r) (h1 : r ≤ 2147483647) (hP : PropTab w) (hV : RVar 2 letterT w) : Calls Tryd.prog 18 #[.int .i32 r] w (BoolPost (isLetterU r) w) := by
  have C := Lib.hid (Tryd.unicode_IsLetter_all r w h0 h1 hP hV)
  clear hV hP
  go_enter Tryd.func18, Tryd.ntmps18
  go_wp2_with fail
  refine C.out.mono ?_
  rintro e w' ⟨rfl, hb⟩
  have HB := Lib.hid hb
  clear hb
  go_wp2
  go_ret
  exact ⟨rfl, HB.out⟩
theorem isUpper_any (r : Int) (w : World) (h0 : -2147483648 ≤ r) (h1 : r ≤ 2147483647) (hP : PropTab w) (hV : RVar 3 upperT w) : Calls Tryd.prog 21 #[.int .i32 r] w (BoolPost (isUpperU r) w) := by
  have C := Lib.hid (Tryd.unicode_IsUpper_all r w h0 h1 hP hV)
  clear hV hP
  go_enter Tryd.func21, Tryd.ntmps21
  go_wp2_with fail
  refine C.out.mono ?_
  rintro e w' ⟨rfl, hb⟩
  have HB := Lib.hid hb
  clear hb
  go_wp2
  go_ret
  exact ⟨rfl, HB.out⟩
theorem isSpace_any (r : Int) (w : World) (h0 : -2147483648 ≤ r) (h1 : r ≤ 2147483647) (hV : WhiteTab 4 w) : Calls Tryd.prog 23 #[.int .i32 r] w (BoolPost (isSpaceZ r) w) := by
  have C := Lib.hid (Tryd.unicode_IsSpace_any r w h0 h1 hV)
  clear hV
  go_enter Tryd.func23, Tryd.ntmps23
  go_wp2_with fail
  refine C.out.mono ?_
  rintro e w' ⟨rfl, hb⟩
  have HB := Lib.hid hb
  clear hb
  go_wp2
  go_ret
  exact ⟨rfl, HB.out⟩
theorem bel_trans' {w w1 w2 : World} (h : Below w.heap.size w w1) (k : Below w1.heap.size w1 w2) : Below w.heap.size w w2 := h.trans (k.mono h.size)
end Go.Proofs.YtkgammnojgngfaaDoor
