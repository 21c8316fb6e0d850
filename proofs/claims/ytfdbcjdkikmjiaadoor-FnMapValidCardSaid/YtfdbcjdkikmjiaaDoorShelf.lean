/-
  DERIVED: THE SHELF's CONTRACTS AT THIS DUMP, IN PLAIN WORDS (tools/lay-plain.mjs out of 'TrydShelf.lean', which tools/lay-shelf.mjs wrote): THE SAME DECLARATIONS UNDER THE SAME NAMES: 'import', 'namespace', 'open', 'def', 'theorem' AND NOTHING ELSE: no command of the shelf's: FOR A HAND-IN. Each laying: the table of numbers ('.._ren') and one theorem, a field a fact of the dump's own or the kernel's comparison; each contract: ONE APPLICATION.
-/
import Derived.Shelf.Unicode.Latin
import Derived.Shelf.Unicode.CaseLookup
import Derived.Shelf.Unicode.CaseConvert
import Derived.Shelf.Unicode.CaseTo
import Derived.Shelf.Unicode.CaseLaid
import Derived.Test.YtfdbcjdkikmjiaaDoorProg
namespace Go.Proofs
open Go.Shelf
def Tryd.lays203_ren : Go.Shelf.Ren := ⟨fun | 203 => 33 | 262 => 42 | 313 => 43 | 274 => 39 | 275 => 40 | n => n, fun | 21 => 21 | 4 => 4 | 3 => 3 | 162 => 44 | 203 => 52 | 160 => 42 | 46 => 39 | 0 => 0 | 208 => 50 | 51 => 29 | 206 => 48 | n => n, fun | 13 => 2 | n => n⟩
theorem Tryd.lays203 : Go.Proofs.Lays.n203 Tryd.prog Tryd.lays203_ren := {
  mixed := by kernel_rfl
  f203 := Tryd.func33.trans (congrArg some (by kernel_rfl))
  f262 := Tryd.func42.trans (congrArg some (by kernel_rfl))
  f274 := Tryd.func39.trans (congrArg some (by kernel_rfl))
  f275 := Tryd.func40.trans (congrArg some (by kernel_rfl))
  f313 := Tryd.func43.trans (congrArg some (by kernel_rfl))
  t0 := Tryd.underlying0
  a0 := Tryd.isAgg0
  z0 := Tryd.sizeOf0
  v0 := Tryd.zeroValue0
  t3 := Tryd.underlying3
  a3 := Tryd.isAgg3
  z3 := Tryd.sizeOf3
  v3 := Tryd.zeroValue3
  t4 := Tryd.underlying4
  a4 := Tryd.isAgg4
  z4 := Tryd.sizeOf4
  v4 := Tryd.zeroValue4
  t21 := Tryd.underlying21
  a21 := Tryd.isAgg21
  z21 := Tryd.sizeOf21
  v21 := Tryd.zeroValue21
  t46 := Tryd.underlying39
  a46 := Tryd.isAgg39
  z46 := Tryd.sizeOf39
  v46 := Tryd.zeroValue39
  t51 := Tryd.underlying29
  a51 := Tryd.isAgg29
  z51 := Tryd.sizeOf29
  v51 := Tryd.zeroValue29
  t160 := Tryd.underlying42
  a160 := Tryd.isAgg42
  z160 := Tryd.sizeOf42
  v160 := Tryd.zeroValue42
  t162 := Tryd.underlying44
  a162 := Tryd.isAgg44
  z162 := Tryd.sizeOf44
  v162 := Tryd.zeroValue44
  t203 := Tryd.underlying52
  a203 := Tryd.isAgg52
  z203 := Tryd.sizeOf52
  v203 := Tryd.zeroValue52
  t206 := Tryd.underlying48
  a206 := Tryd.isAgg48
  z206 := Tryd.sizeOf48
  v206 := Tryd.zeroValue48
  t208 := Tryd.underlying50
  a208 := Tryd.isAgg50
  z208 := Tryd.sizeOf50
  v208 := Tryd.zeroValue50
  g13 := by kernel_rfl }
open Go.RowKit Go.Lib in
theorem Tryd.unicode_ToUpper (r : Int) (w : World) (h : r ≤ 127) :
    Calls Tryd.prog 33 #[.int .i32 r] w fun e w' => e = .returned (.int .i32 (Lib.toUpperR r)) ∧ w' = w := Any.unicode_ToUpper Tryd.lays203 r w h
def Tryd.lays204_ren : Go.Shelf.Ren := ⟨fun | 204 => 34 | 262 => 42 | 313 => 43 | 274 => 39 | 275 => 40 | n => n, fun | 21 => 21 | 4 => 4 | 3 => 3 | 162 => 44 | 203 => 52 | 160 => 42 | 46 => 39 | 0 => 0 | 208 => 50 | 51 => 29 | 206 => 48 | n => n, fun | 13 => 2 | n => n⟩
theorem Tryd.lays204 : Go.Proofs.Lays.n204 Tryd.prog Tryd.lays204_ren := {
  mixed := by kernel_rfl
  f204 := Tryd.func34.trans (congrArg some (by kernel_rfl))
  f262 := Tryd.func42.trans (congrArg some (by kernel_rfl))
  f274 := Tryd.func39.trans (congrArg some (by kernel_rfl))
  f275 := Tryd.func40.trans (congrArg some (by kernel_rfl))
  f313 := Tryd.func43.trans (congrArg some (by kernel_rfl))
  t0 := Tryd.underlying0
  a0 := Tryd.isAgg0
  z0 := Tryd.sizeOf0
  v0 := Tryd.zeroValue0
  t3 := Tryd.underlying3
  a3 := Tryd.isAgg3
  z3 := Tryd.sizeOf3
  v3 := Tryd.zeroValue3
  t4 := Tryd.underlying4
  a4 := Tryd.isAgg4
  z4 := Tryd.sizeOf4
  v4 := Tryd.zeroValue4
  t21 := Tryd.underlying21
  a21 := Tryd.isAgg21
  z21 := Tryd.sizeOf21
  v21 := Tryd.zeroValue21
  t46 := Tryd.underlying39
  a46 := Tryd.isAgg39
  z46 := Tryd.sizeOf39
  v46 := Tryd.zeroValue39
  t51 := Tryd.underlying29
  a51 := Tryd.isAgg29
  z51 := Tryd.sizeOf29
  v51 := Tryd.zeroValue29
  t160 := Tryd.underlying42
  a160 := Tryd.isAgg42
  z160 := Tryd.sizeOf42
  v160 := Tryd.zeroValue42
  t162 := Tryd.underlying44
  a162 := Tryd.isAgg44
  z162 := Tryd.sizeOf44
  v162 := Tryd.zeroValue44
  t203 := Tryd.underlying52
  a203 := Tryd.isAgg52
  z203 := Tryd.sizeOf52
  v203 := Tryd.zeroValue52
  t206 := Tryd.underlying48
  a206 := Tryd.isAgg48
  z206 := Tryd.sizeOf48
  v206 := Tryd.zeroValue48
  t208 := Tryd.underlying50
  a208 := Tryd.isAgg50
  z208 := Tryd.sizeOf50
  v208 := Tryd.zeroValue50
  g13 := by kernel_rfl }
open Go.RowKit Go.Lib in
theorem Tryd.unicode_ToLower (r : Int) (w : World) (h : r ≤ 127) :
    Calls Tryd.prog 34 #[.int .i32 r] w fun e w' => e = .returned (.int .i32 (Lib.toLowerR r)) ∧ w' = w := Any.unicode_ToLower Tryd.lays204 r w h
def Tryd.lays274_ren : Go.Shelf.Ren := ⟨fun | 274 => 39 | n => n, fun | 21 => 21 | 162 => 44 | 160 => 42 | 3 => 3 | 4 => 4 | 46 => 39 | 0 => 0 | 208 => 50 | 51 => 29 | 206 => 48 | n => n, fun | n => n⟩
theorem Tryd.lays274 : Go.Proofs.Lays.n274 Tryd.prog Tryd.lays274_ren := {
  mixed := by kernel_rfl
  f274 := Tryd.func39.trans (congrArg some (by kernel_rfl))
  t0 := Tryd.underlying0
  a0 := Tryd.isAgg0
  z0 := Tryd.sizeOf0
  v0 := Tryd.zeroValue0
  t3 := Tryd.underlying3
  a3 := Tryd.isAgg3
  z3 := Tryd.sizeOf3
  v3 := Tryd.zeroValue3
  t4 := Tryd.underlying4
  a4 := Tryd.isAgg4
  z4 := Tryd.sizeOf4
  v4 := Tryd.zeroValue4
  t21 := Tryd.underlying21
  a21 := Tryd.isAgg21
  z21 := Tryd.sizeOf21
  v21 := Tryd.zeroValue21
  t46 := Tryd.underlying39
  a46 := Tryd.isAgg39
  z46 := Tryd.sizeOf39
  v46 := Tryd.zeroValue39
  t51 := Tryd.underlying29
  a51 := Tryd.isAgg29
  z51 := Tryd.sizeOf29
  v51 := Tryd.zeroValue29
  t160 := Tryd.underlying42
  a160 := Tryd.isAgg42
  z160 := Tryd.sizeOf42
  v160 := Tryd.zeroValue42
  t162 := Tryd.underlying44
  a162 := Tryd.isAgg44
  z162 := Tryd.sizeOf44
  v162 := Tryd.zeroValue44
  t208 := Tryd.underlying50
  a208 := Tryd.isAgg50
  z208 := Tryd.sizeOf50
  v208 := Tryd.zeroValue50 }
open Go.RowKit Go.Lib in
theorem Tryd.unicode_lookupCaseRange (T : Array CaseRow) (R oR cap : Nat) (r : Int) (w : World) (hT : CaseTab R oR T w) (hok : CaseOk T) (hn : T.size ≤ 1000000000) :
    Calls Tryd.prog 39 #[.int .i32 r, .slice (some ⟨R, oR, none⟩) T.size cap] w fun e w' =>
      e = .returned (match lookupIdx T r (T.size + 1) 0 T.size with | some i => .pointer (some ⟨R, oR + i * 5, none⟩) | none => .pointer none) ∧ w' = w := Any.unicode_lookupCaseRange Tryd.lays274 T R oR cap r w hT hok hn
def Tryd.lays275_ren : Go.Shelf.Ren := ⟨fun | 275 => 40 | n => n, fun | 3 => 3 | 21 => 21 | 160 => 42 | 0 => 0 | 208 => 50 | 206 => 48 | 4 => 4 | 51 => 29 | n => n, fun | n => n⟩
theorem Tryd.lays275 : Go.Proofs.Lays.n275 Tryd.prog Tryd.lays275_ren := {
  mixed := by kernel_rfl
  f275 := Tryd.func40.trans (congrArg some (by kernel_rfl))
  t0 := Tryd.underlying0
  a0 := Tryd.isAgg0
  z0 := Tryd.sizeOf0
  v0 := Tryd.zeroValue0
  t3 := Tryd.underlying3
  a3 := Tryd.isAgg3
  z3 := Tryd.sizeOf3
  v3 := Tryd.zeroValue3
  t4 := Tryd.underlying4
  a4 := Tryd.isAgg4
  z4 := Tryd.sizeOf4
  v4 := Tryd.zeroValue4
  t21 := Tryd.underlying21
  a21 := Tryd.isAgg21
  z21 := Tryd.sizeOf21
  v21 := Tryd.zeroValue21
  t51 := Tryd.underlying29
  a51 := Tryd.isAgg29
  z51 := Tryd.sizeOf29
  v51 := Tryd.zeroValue29
  t160 := Tryd.underlying42
  a160 := Tryd.isAgg42
  z160 := Tryd.sizeOf42
  v160 := Tryd.zeroValue42
  t206 := Tryd.underlying48
  a206 := Tryd.isAgg48
  z206 := Tryd.sizeOf48
  v206 := Tryd.zeroValue48
  t208 := Tryd.underlying50
  a208 := Tryd.isAgg50
  z208 := Tryd.sizeOf50
  v208 := Tryd.zeroValue50 }
open Go.RowKit Go.Lib in
theorem Tryd.unicode_convertCase (c : Nat) (hc : c < 3) (r : Int) (A o : Nat) (x : CaseRow) (w : World) (hlo : (x.1 : Int) ≤ r) (hhi : r ≤ (x.2.1 : Int)) (hH : x.2.1 < 2147483647) (c0 : w.cell? ⟨A, o, none⟩ = some (.int .u32 x.1)) (cD : w.cell? ⟨A, o + 2 + c, none⟩ = some (.int .i32 (x.delta c))) :
    Calls Tryd.prog 40 #[.int .i64 c, .int .i32 r, .pointer (some ⟨A, o, none⟩)] w fun e w' => e = .returned (.int .i32 (wrap32 (convertR c r x))) ∧ ∃ q, w' = w.drewN q := Any.unicode_convertCase Tryd.lays275 c hc r A o x w hlo hhi hH c0 cD
def Tryd.lays313_ren : Go.Shelf.Ren := ⟨fun | 313 => 43 | 274 => 39 | 275 => 40 | n => n, fun | 3 => 3 | 21 => 21 | 162 => 44 | 4 => 4 | 160 => 42 | 46 => 39 | 0 => 0 | 208 => 50 | 51 => 29 | 206 => 48 | n => n, fun | n => n⟩
theorem Tryd.lays313 : Go.Proofs.Lays.n313 Tryd.prog Tryd.lays313_ren := {
  mixed := by kernel_rfl
  f274 := Tryd.func39.trans (congrArg some (by kernel_rfl))
  f275 := Tryd.func40.trans (congrArg some (by kernel_rfl))
  f313 := Tryd.func43.trans (congrArg some (by kernel_rfl))
  t0 := Tryd.underlying0
  a0 := Tryd.isAgg0
  z0 := Tryd.sizeOf0
  v0 := Tryd.zeroValue0
  t3 := Tryd.underlying3
  a3 := Tryd.isAgg3
  z3 := Tryd.sizeOf3
  v3 := Tryd.zeroValue3
  t4 := Tryd.underlying4
  a4 := Tryd.isAgg4
  z4 := Tryd.sizeOf4
  v4 := Tryd.zeroValue4
  t21 := Tryd.underlying21
  a21 := Tryd.isAgg21
  z21 := Tryd.sizeOf21
  v21 := Tryd.zeroValue21
  t46 := Tryd.underlying39
  a46 := Tryd.isAgg39
  z46 := Tryd.sizeOf39
  v46 := Tryd.zeroValue39
  t51 := Tryd.underlying29
  a51 := Tryd.isAgg29
  z51 := Tryd.sizeOf29
  v51 := Tryd.zeroValue29
  t160 := Tryd.underlying42
  a160 := Tryd.isAgg42
  z160 := Tryd.sizeOf42
  v160 := Tryd.zeroValue42
  t162 := Tryd.underlying44
  a162 := Tryd.isAgg44
  z162 := Tryd.sizeOf44
  v162 := Tryd.zeroValue44
  t206 := Tryd.underlying48
  a206 := Tryd.isAgg48
  z206 := Tryd.sizeOf48
  v206 := Tryd.zeroValue48
  t208 := Tryd.underlying50
  a208 := Tryd.isAgg50
  z208 := Tryd.sizeOf50
  v208 := Tryd.zeroValue50 }
open Go.RowKit Go.Lib in
theorem Tryd.unicode_to (c : Nat) (hc : c < 3) (r : Int) (T : Array CaseRow) (R oR cap : Nat) (w : World) (hT : CaseTab R oR T w) (hok : CaseOk2 T) (hn : T.size ≤ 1000000000) :
    Calls Tryd.prog 43 #[.int .i64 c, .int .i32 r, .slice (some ⟨R, oR, none⟩) T.size cap] w fun e w' => e = .returned (.tuple #[.int .i32 (toW T c r), .bool (lookupIdx T r (T.size + 1) 0 T.size).isSome]) ∧ ∃ q, w' = w.drewN q := Any.unicode_to Tryd.lays313 c hc r T R oR cap w hT hok hn
def Tryd.lays262_ren : Go.Shelf.Ren := ⟨fun | 262 => 42 | 313 => 43 | 274 => 39 | 275 => 40 | n => n, fun | 3 => 3 | 21 => 21 | 162 => 44 | 203 => 52 | 4 => 4 | 160 => 42 | 46 => 39 | 0 => 0 | 208 => 50 | 51 => 29 | 206 => 48 | n => n, fun | 13 => 2 | n => n⟩
theorem Tryd.lays262 : Go.Proofs.Lays.n262 Tryd.prog Tryd.lays262_ren := {
  mixed := by kernel_rfl
  f262 := Tryd.func42.trans (congrArg some (by kernel_rfl))
  f274 := Tryd.func39.trans (congrArg some (by kernel_rfl))
  f275 := Tryd.func40.trans (congrArg some (by kernel_rfl))
  f313 := Tryd.func43.trans (congrArg some (by kernel_rfl))
  t0 := Tryd.underlying0
  a0 := Tryd.isAgg0
  z0 := Tryd.sizeOf0
  v0 := Tryd.zeroValue0
  t3 := Tryd.underlying3
  a3 := Tryd.isAgg3
  z3 := Tryd.sizeOf3
  v3 := Tryd.zeroValue3
  t4 := Tryd.underlying4
  a4 := Tryd.isAgg4
  z4 := Tryd.sizeOf4
  v4 := Tryd.zeroValue4
  t21 := Tryd.underlying21
  a21 := Tryd.isAgg21
  z21 := Tryd.sizeOf21
  v21 := Tryd.zeroValue21
  t46 := Tryd.underlying39
  a46 := Tryd.isAgg39
  z46 := Tryd.sizeOf39
  v46 := Tryd.zeroValue39
  t51 := Tryd.underlying29
  a51 := Tryd.isAgg29
  z51 := Tryd.sizeOf29
  v51 := Tryd.zeroValue29
  t160 := Tryd.underlying42
  a160 := Tryd.isAgg42
  z160 := Tryd.sizeOf42
  v160 := Tryd.zeroValue42
  t162 := Tryd.underlying44
  a162 := Tryd.isAgg44
  z162 := Tryd.sizeOf44
  v162 := Tryd.zeroValue44
  t203 := Tryd.underlying52
  a203 := Tryd.isAgg52
  z203 := Tryd.sizeOf52
  v203 := Tryd.zeroValue52
  t206 := Tryd.underlying48
  a206 := Tryd.isAgg48
  z206 := Tryd.sizeOf48
  v206 := Tryd.zeroValue48
  t208 := Tryd.underlying50
  a208 := Tryd.isAgg50
  z208 := Tryd.sizeOf50
  v208 := Tryd.zeroValue50
  g13 := by kernel_rfl }
open Go.RowKit Go.Lib in
theorem Tryd.unicode_To (c : Nat) (hc : c < 3) (r : Int) (T : Array CaseRow) (w : World) (hV : CaseVar 2 T w) (hok : CaseOk2 T) (hn : T.size ≤ 1000000000) :
    Calls Tryd.prog 42 #[.int .i64 c, .int .i32 r] w fun e w' => e = .returned (.int .i32 (toW T c r)) ∧ ∃ q, w' = w.drewN q := Any.unicode_To Tryd.lays262 c hc r T w hV hok hn
open Go.RowKit Go.Lib in
theorem Tryd.unicode_ToLower_any (r : Int) (T : Array CaseRow) (w : World) (hV : CaseVar 2 T w) (hok : CaseOk2 T) (hn : T.size ≤ 1000000000) :
    Calls Tryd.prog 34 #[.int .i32 r] w fun e w' => e = .returned (.int .i32 (Lib.toLowerW T r)) ∧ ∃ q, w' = w.drewN q := Any.unicode_ToLower_any Tryd.lays204 r T w hV hok hn
open Go.RowKit Go.Lib in
theorem Tryd.unicode_ToUpper_any (r : Int) (T : Array CaseRow) (w : World) (hV : CaseVar 2 T w) (hok : CaseOk2 T) (hn : T.size ≤ 1000000000) :
    Calls Tryd.prog 33 #[.int .i32 r] w fun e w' => e = .returned (.int .i32 (Lib.toUpperW T r)) ∧ ∃ q, w' = w.drewN q := Any.unicode_ToUpper_any Tryd.lays203 r T w hV hok hn
open Go.RowKit Go.Lib in
theorem Tryd.unicode_ToLower_laid (r : Int) (w : World) (hV : CaseVar 2 caseA w) :
    Calls Tryd.prog 34 #[.int .i32 r] w fun e w' => e = .returned (.int .i32 (toLowerU r)) ∧ ∃ q, w' = w.drewN q := Any.unicode_ToLower_laid Tryd.lays204 r w hV
open Go.RowKit Go.Lib in
theorem Tryd.unicode_ToUpper_laid (r : Int) (w : World) (hV : CaseVar 2 caseA w) :
    Calls Tryd.prog 33 #[.int .i32 r] w fun e w' => e = .returned (.int .i32 (toUpperU r)) ∧ ∃ q, w' = w.drewN q := Any.unicode_ToUpper_laid Tryd.lays203 r w hV
end Go.Proofs
