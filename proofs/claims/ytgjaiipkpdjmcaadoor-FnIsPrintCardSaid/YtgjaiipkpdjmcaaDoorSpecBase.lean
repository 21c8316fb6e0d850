/-
  PLAIN: the reference's functions of the first 256 numbers.
-/
import Derived.Test.YtgjaiipkpdjmcaaDoorProg
import Derived.WalkKit
import Derived.WalkSpells
import Derived.Lib.Hide
namespace Go.Proofs.YtgjaiipkpdjmcaaDoor
open Go.RowKit
set_option linter.unusedVariables false

theorem ret_bool {a b : Bool} (h : a = b) : Ending.returned (.bool a) = .returned (.bool b) := by rw [h]
theorem ret_i32 {a b : Int} (h : a = b) : Ending.returned (.int .i32 a) = .returned (.int .i32 b) := by rw [h]
def latB (r : Int) : Bool := decide (0 ≤ r ∧ r ≤ 255)
def capB (r : Int) : Bool := decide ((65 ≤ r ∧ r ≤ 90) ∨ (192 ≤ r ∧ r ≤ 222 ∧ r ≠ 215))
def smallB (r : Int) : Bool := decide ((97 ≤ r ∧ r ≤ 122) ∨ (224 ≤ r ∧ r ≤ 254 ∧ r ≠ 247))
def upS (r : Int) : Int := if smallB r then r - 32 else if r = 181 then 924 else if r = 255 then 376 else r
def lowS (r : Int) : Int := if capB r then r + 32 else r

end Go.Proofs.YtgjaiipkpdjmcaaDoor
