/-
  THE TABLE unicode.properties: what a row's list gives of it; how 'r in the first 256' is asked.
-/
import Derived.Test.YtgjaiipkpdjmcaaDoorRows
import Derived.Lib.Props
import Derived.Lib.LaidTab
import Derived.Lib.LaidU8
import Derived.Lib.Hide
import Derived.WalkKit
import Derived.WalkSpells
import Derived.Below
namespace Go.Proofs.YtgjaiipkpdjmcaaDoor
open Go.RowKit Go.Lib
set_option linter.unusedVariables false

/-- The variable unicode.properties holds its 256 numbers. -/
def PropsIs (w : World) : Prop := ∀ k : Nat, k < 256 → w.cell? ⟨0, k, none⟩ = some (.int .u8 (propertiesTab.getD k 0))
theorem props_len : propertiesTab.length = 256 := by kernel_rfl
theorem props_tab {w : World} {l : List (String × DataW Unit)} (hL : laidMet Tryd.prog l w) (hm : ("unicode.properties", (Rows.laid_unicode_properties : DataW Unit)) ∈ l) : TabIs Tryd.prog w "unicode.properties" .u8 propertiesTab := by
  obtain ⟨g, t, cs, fuel, p, hg, ht, hvar, hd⟩ := Lib.laidMet.reads hL hm
  obtain rfl := Option.some.inj ((show Tryd.prog.globalNamed "unicode.properties" = some 0 by kernel_rfl).symm.trans hg)
  obtain rfl := Option.some.inj ((show (Tryd.prog.globals[0]?).map (·.type) = some 32 by kernel_rfl).symm.trans ht)
  have e : (Rows.laid_unicode_properties : DataW Unit) = tabData .u8 propertiesTab := by kernel_rfl
  rw [e] at hd
  unfold TabIs
  rw [hvar, ← cells_of_tab Tryd.underlying32 Tryd.underlying5 (by kernel_rfl) (by kernel_rfl) hd]
theorem props_of_laid {w : World} {l : List (String × DataW Unit)} (hL : laidMet Tryd.prog l w) (hm : ("unicode.properties", (Rows.laid_unicode_properties : DataW Unit)) ∈ l) : PropsIs w :=
  fun k hk => (props_tab hL hm).cell (by kernel_rfl) k (by rw [props_len]; exact hk)
theorem props_below {w w' : World} (h : PropsIs w) (hb : Below w.heap.size w w') : PropsIs w' := fun k hk => cell_later hb (h k hk)
theorem wrap_u32_neg {r : Int} (h0 : -2147483648 ≤ r) (h1 : r < 0) : IntKind.u32.wrap r = r + 4294967296 := by
  simp [IntKind.wrap, IntKind.bits, IntKind.signed]
  omega
end Go.Proofs.YtgjaiipkpdjmcaaDoor
