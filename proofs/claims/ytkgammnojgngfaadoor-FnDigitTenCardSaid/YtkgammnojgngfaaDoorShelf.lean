/-
  DERIVED: THE SHELF's CONTRACTS AT THIS DUMP, IN PLAIN WORDS (tools/lay-plain.mjs out of 'TrydShelf.lean', which tools/lay-shelf.mjs wrote): THE SAME DECLARATIONS UNDER THE SAME NAMES: 'import', 'namespace', 'open', 'def', 'theorem' AND NOTHING ELSE: no command of the shelf's: FOR A HAND-IN. Each laying: the table of numbers ('.._ren') and one theorem, a field a fact of the dump's own or the kernel's comparison; each contract: ONE APPLICATION.
-/
import Derived.Shelf.Unicode.Latin
import Derived.Shelf.Unicode.Props
import Derived.Shelf.Unicode.Is16White
import Derived.Shelf.Unicode.IsSpaceAny
import Derived.Shelf.Unicode.Is16WhiteD
import Derived.Shelf.Unicode.IsSpaceAnyD
import Derived.Shelf.Unicode.CaseLookup
import Derived.Shelf.Unicode.CaseConvert
import Derived.Shelf.Unicode.CaseTo
import Derived.Shelf.Unicode.CaseLaid
import Derived.Shelf.Unicode.Is16Any
import Derived.Shelf.Unicode.Is32Any
import Derived.Shelf.Unicode.ExclAny
import Derived.Shelf.Unicode.PredsAny
import Derived.Shelf.Unicode.PredsPay
import Derived.Test.YtkgammnojgngfaaDoorProg
namespace Go.Proofs
open Go.Shelf
def Tryd.lays198_ren : Go.Shelf.Ren := ⟨fun | 198 => 26 | 261 => 37 | 311 => 40 | 312 => 41 | n => n, fun | 21 => 21 | 4 => 4 | 141 => 36 | 0 => 0 | 196 => 42 | 193 => 39 | 3 => 3 | 51 => 27 | 198 => 45 | 49 => 43 | 194 => 40 | 201 => 48 | 226 => 54 | 46 => 55 | 227 => 56 | n => n, fun | 5 => 0 | n => n⟩
theorem Tryd.lays198 : Go.Proofs.Lays.n198 Tryd.prog Tryd.lays198_ren := {
  mixed := by kernel_rfl
  f198 := Tryd.func26.trans (congrArg some (by kernel_rfl))
  f261 := Tryd.func37.trans (congrArg some (by kernel_rfl))
  f311 := Tryd.func40.trans (congrArg some (by kernel_rfl))
  f312 := Tryd.func41.trans (congrArg some (by kernel_rfl))
  t0 := Tryd.underlying0
  a0 := Tryd.isAgg0
  z0 := Tryd.sizeOf0
  v0 := Tryd.zeroValue0
  t3 := Tryd.underlying3
  a3 := Tryd.isAgg3
  z3 := Tryd.sizeOf3
  v3 := Tryd.zeroValue3
  t4 := Tryd.underlying4
  a4 := Tryd.isAgg4
  z4 := Tryd.sizeOf4
  v4 := Tryd.zeroValue4
  t21 := Tryd.underlying21
  a21 := Tryd.isAgg21
  z21 := Tryd.sizeOf21
  v21 := Tryd.zeroValue21
  t46 := Tryd.underlying55
  a46 := Tryd.isAgg55
  z46 := Tryd.sizeOf55
  v46 := Tryd.zeroValue55
  t49 := Tryd.underlying43
  a49 := Tryd.isAgg43
  z49 := Tryd.sizeOf43
  v49 := Tryd.zeroValue43
  t51 := Tryd.underlying27
  a51 := Tryd.isAgg27
  z51 := Tryd.sizeOf27
  v51 := Tryd.zeroValue27
  t141 := Tryd.underlying36
  a141 := Tryd.isAgg36
  z141 := Tryd.sizeOf36
  v141 := Tryd.zeroValue36
  t193 := Tryd.underlying39
  a193 := Tryd.isAgg39
  z193 := Tryd.sizeOf39
  v193 := Tryd.zeroValue39
  t194 := Tryd.underlying40
  a194 := Tryd.isAgg40
  z194 := Tryd.sizeOf40
  v194 := Tryd.zeroValue40
  t196 := Tryd.underlying42
  a196 := Tryd.isAgg42
  z196 := Tryd.sizeOf42
  v196 := Tryd.zeroValue42
  t198 := Tryd.underlying45
  a198 := Tryd.isAgg45
  z198 := Tryd.sizeOf45
  v198 := Tryd.zeroValue45
  t201 := Tryd.underlying48
  a201 := Tryd.isAgg48
  z201 := Tryd.sizeOf48
  v201 := Tryd.zeroValue48
  t226 := Tryd.underlying54
  a226 := Tryd.isAgg54
  z226 := Tryd.sizeOf54
  v226 := Tryd.zeroValue54
  t227 := Tryd.underlying56
  a227 := Tryd.isAgg56
  z227 := Tryd.sizeOf56
  v227 := Tryd.zeroValue56
  g5 := by kernel_rfl }
open Go.RowKit Go.Lib in
theorem Tryd.unicode_IsDigit (r : Int) (w : World) (h : r ≤ 255) :
    Calls Tryd.prog 26 #[.int .i32 r] w fun e w' => e = .returned (.bool (Lib.isDigitL r)) ∧ w' = w := Any.unicode_IsDigit Tryd.lays198 r w h
def Tryd.lays199_ren : Go.Shelf.Ren := ⟨fun | 199 => 35 | 261 => 37 | 311 => 40 | 312 => 41 | n => n, fun | 21 => 21 | 4 => 4 | 51 => 27 | 141 => 36 | 0 => 0 | 196 => 42 | 193 => 39 | 3 => 3 | 198 => 45 | 49 => 43 | 194 => 40 | 201 => 48 | 226 => 54 | 46 => 55 | 227 => 56 | n => n, fun | 6 => 4 | n => n⟩
theorem Tryd.lays199 : Go.Proofs.Lays.n199 Tryd.prog Tryd.lays199_ren := {
  mixed := by kernel_rfl
  f199 := Tryd.func35.trans (congrArg some (by kernel_rfl))
  f261 := Tryd.func37.trans (congrArg some (by kernel_rfl))
  f311 := Tryd.func40.trans (congrArg some (by kernel_rfl))
  f312 := Tryd.func41.trans (congrArg some (by kernel_rfl))
  t0 := Tryd.underlying0
  a0 := Tryd.isAgg0
  z0 := Tryd.sizeOf0
  v0 := Tryd.zeroValue0
  t3 := Tryd.underlying3
  a3 := Tryd.isAgg3
  z3 := Tryd.sizeOf3
  v3 := Tryd.zeroValue3
  t4 := Tryd.underlying4
  a4 := Tryd.isAgg4
  z4 := Tryd.sizeOf4
  v4 := Tryd.zeroValue4
  t21 := Tryd.underlying21
  a21 := Tryd.isAgg21
  z21 := Tryd.sizeOf21
  v21 := Tryd.zeroValue21
  t46 := Tryd.underlying55
  a46 := Tryd.isAgg55
  z46 := Tryd.sizeOf55
  v46 := Tryd.zeroValue55
  t49 := Tryd.underlying43
  a49 := Tryd.isAgg43
  z49 := Tryd.sizeOf43
  v49 := Tryd.zeroValue43
  t51 := Tryd.underlying27
  a51 := Tryd.isAgg27
  z51 := Tryd.sizeOf27
  v51 := Tryd.zeroValue27
  t141 := Tryd.underlying36
  a141 := Tryd.isAgg36
  z141 := Tryd.sizeOf36
  v141 := Tryd.zeroValue36
  t193 := Tryd.underlying39
  a193 := Tryd.isAgg39
  z193 := Tryd.sizeOf39
  v193 := Tryd.zeroValue39
  t194 := Tryd.underlying40
  a194 := Tryd.isAgg40
  z194 := Tryd.sizeOf40
  v194 := Tryd.zeroValue40
  t196 := Tryd.underlying42
  a196 := Tryd.isAgg42
  z196 := Tryd.sizeOf42
  v196 := Tryd.zeroValue42
  t198 := Tryd.underlying45
  a198 := Tryd.isAgg45
  z198 := Tryd.sizeOf45
  v198 := Tryd.zeroValue45
  t201 := Tryd.underlying48
  a201 := Tryd.isAgg48
  z201 := Tryd.sizeOf48
  v201 := Tryd.zeroValue48
  t226 := Tryd.underlying54
  a226 := Tryd.isAgg54
  z226 := Tryd.sizeOf54
  v226 := Tryd.zeroValue54
  t227 := Tryd.underlying56
  a227 := Tryd.isAgg56
  z227 := Tryd.sizeOf56
  v227 := Tryd.zeroValue56
  g6 := by kernel_rfl }
open Go.RowKit Go.Lib in
theorem Tryd.unicode_IsSpace (r : Int) (w : World) (h0 : 0 ≤ r) (h : r ≤ 255) :
    Calls Tryd.prog 35 #[.int .i32 r] w fun e w' => e = .returned (.bool (Lib.isSpaceL r)) ∧ w' = w := Any.unicode_IsSpace Tryd.lays199 r w h0 h
def Tryd.lays203_ren : Go.Shelf.Ren := ⟨fun | 203 => 36 | 262 => 39 | 313 => 42 | 274 => 43 | 275 => 44 | n => n, fun | 21 => 21 | 4 => 4 | 3 => 3 | 162 => 53 | 203 => 51 | 160 => 57 | 46 => 55 | 0 => 0 | 208 => 63 | 51 => 27 | 206 => 61 | n => n, fun | 13 => 5 | n => n⟩
theorem Tryd.lays203 : Go.Proofs.Lays.n203 Tryd.prog Tryd.lays203_ren := {
  mixed := by kernel_rfl
  f203 := Tryd.func36.trans (congrArg some (by kernel_rfl))
  f262 := Tryd.func39.trans (congrArg some (by kernel_rfl))
  f274 := Tryd.func43.trans (congrArg some (by kernel_rfl))
  f275 := Tryd.func44.trans (congrArg some (by kernel_rfl))
  f313 := Tryd.func42.trans (congrArg some (by kernel_rfl))
  t0 := Tryd.underlying0
  a0 := Tryd.isAgg0
  z0 := Tryd.sizeOf0
  v0 := Tryd.zeroValue0
  t3 := Tryd.underlying3
  a3 := Tryd.isAgg3
  z3 := Tryd.sizeOf3
  v3 := Tryd.zeroValue3
  t4 := Tryd.underlying4
  a4 := Tryd.isAgg4
  z4 := Tryd.sizeOf4
  v4 := Tryd.zeroValue4
  t21 := Tryd.underlying21
  a21 := Tryd.isAgg21
  z21 := Tryd.sizeOf21
  v21 := Tryd.zeroValue21
  t46 := Tryd.underlying55
  a46 := Tryd.isAgg55
  z46 := Tryd.sizeOf55
  v46 := Tryd.zeroValue55
  t51 := Tryd.underlying27
  a51 := Tryd.isAgg27
  z51 := Tryd.sizeOf27
  v51 := Tryd.zeroValue27
  t160 := Tryd.underlying57
  a160 := Tryd.isAgg57
  z160 := Tryd.sizeOf57
  v160 := Tryd.zeroValue57
  t162 := Tryd.underlying53
  a162 := Tryd.isAgg53
  z162 := Tryd.sizeOf53
  v162 := Tryd.zeroValue53
  t203 := Tryd.underlying51
  a203 := Tryd.isAgg51
  z203 := Tryd.sizeOf51
  v203 := Tryd.zeroValue51
  t206 := Tryd.underlying61
  a206 := Tryd.isAgg61
  z206 := Tryd.sizeOf61
  v206 := Tryd.zeroValue61
  t208 := Tryd.underlying63
  a208 := Tryd.isAgg63
  z208 := Tryd.sizeOf63
  v208 := Tryd.zeroValue63
  g13 := by kernel_rfl }
open Go.RowKit Go.Lib in
theorem Tryd.unicode_ToUpper (r : Int) (w : World) (h : r ≤ 127) :
    Calls Tryd.prog 36 #[.int .i32 r] w fun e w' => e = .returned (.int .i32 (Lib.toUpperR r)) ∧ w' = w := Any.unicode_ToUpper Tryd.lays203 r w h
def Tryd.lays200_ren : Go.Shelf.Ren := ⟨fun | 200 => 30 | 261 => 37 | 311 => 40 | 312 => 41 | n => n, fun | 21 => 21 | 4 => 4 | 51 => 27 | 5 => 5 | 119 => 37 | 0 => 0 | 141 => 36 | 196 => 42 | 193 => 39 | 3 => 3 | 198 => 45 | 49 => 43 | 194 => 40 | 201 => 48 | 226 => 54 | 46 => 55 | 227 => 56 | n => n, fun | 7 => 1 | 8 => 2 | n => n⟩
theorem Tryd.lays200 : Go.Proofs.Lays.n200 Tryd.prog Tryd.lays200_ren := {
  mixed := by kernel_rfl
  f200 := Tryd.func30.trans (congrArg some (by kernel_rfl))
  f261 := Tryd.func37.trans (congrArg some (by kernel_rfl))
  f311 := Tryd.func40.trans (congrArg some (by kernel_rfl))
  f312 := Tryd.func41.trans (congrArg some (by kernel_rfl))
  t0 := Tryd.underlying0
  a0 := Tryd.isAgg0
  z0 := Tryd.sizeOf0
  v0 := Tryd.zeroValue0
  t3 := Tryd.underlying3
  a3 := Tryd.isAgg3
  z3 := Tryd.sizeOf3
  v3 := Tryd.zeroValue3
  t4 := Tryd.underlying4
  a4 := Tryd.isAgg4
  z4 := Tryd.sizeOf4
  v4 := Tryd.zeroValue4
  t5 := Tryd.underlying5
  a5 := Tryd.isAgg5
  z5 := Tryd.sizeOf5
  v5 := Tryd.zeroValue5
  t21 := Tryd.underlying21
  a21 := Tryd.isAgg21
  z21 := Tryd.sizeOf21
  v21 := Tryd.zeroValue21
  t46 := Tryd.underlying55
  a46 := Tryd.isAgg55
  z46 := Tryd.sizeOf55
  v46 := Tryd.zeroValue55
  t49 := Tryd.underlying43
  a49 := Tryd.isAgg43
  z49 := Tryd.sizeOf43
  v49 := Tryd.zeroValue43
  t51 := Tryd.underlying27
  a51 := Tryd.isAgg27
  z51 := Tryd.sizeOf27
  v51 := Tryd.zeroValue27
  t119 := Tryd.underlying37
  a119 := Tryd.isAgg37
  z119 := Tryd.sizeOf37
  t141 := Tryd.underlying36
  a141 := Tryd.isAgg36
  z141 := Tryd.sizeOf36
  v141 := Tryd.zeroValue36
  t193 := Tryd.underlying39
  a193 := Tryd.isAgg39
  z193 := Tryd.sizeOf39
  v193 := Tryd.zeroValue39
  t194 := Tryd.underlying40
  a194 := Tryd.isAgg40
  z194 := Tryd.sizeOf40
  v194 := Tryd.zeroValue40
  t196 := Tryd.underlying42
  a196 := Tryd.isAgg42
  z196 := Tryd.sizeOf42
  v196 := Tryd.zeroValue42
  t198 := Tryd.underlying45
  a198 := Tryd.isAgg45
  z198 := Tryd.sizeOf45
  v198 := Tryd.zeroValue45
  t201 := Tryd.underlying48
  a201 := Tryd.isAgg48
  z201 := Tryd.sizeOf48
  v201 := Tryd.zeroValue48
  t226 := Tryd.underlying54
  a226 := Tryd.isAgg54
  z226 := Tryd.sizeOf54
  v226 := Tryd.zeroValue54
  t227 := Tryd.underlying56
  a227 := Tryd.isAgg56
  z227 := Tryd.sizeOf56
  v227 := Tryd.zeroValue56
  g7 := by kernel_rfl
  g8 := by kernel_rfl }
open Go.RowKit Go.Lib in
theorem Tryd.unicode_IsLetter (c : Nat) (w : World) (hc : c < 256) (htab : Lib.TabIs Tryd.prog w "unicode.properties" .u8 Lib.propertiesTab) :
    Calls Tryd.prog 30 #[.int .i32 c] w fun e w' => e = .returned (.bool (Lib.isLetterL c)) ∧ w' = w := Any.unicode_IsLetter Tryd.lays200 (by kernel_rfl) c w hc htab
def Tryd.lays201_ren : Go.Shelf.Ren := ⟨fun | 201 => 34 | 261 => 37 | 311 => 40 | 312 => 41 | n => n, fun | 21 => 21 | 4 => 4 | 51 => 27 | 5 => 5 | 119 => 37 | 0 => 0 | 141 => 36 | 196 => 42 | 193 => 39 | 3 => 3 | 198 => 45 | 49 => 43 | 194 => 40 | 201 => 48 | 226 => 54 | 46 => 55 | 227 => 56 | n => n, fun | 7 => 1 | 9 => 3 | n => n⟩
theorem Tryd.lays201 : Go.Proofs.Lays.n201 Tryd.prog Tryd.lays201_ren := {
  mixed := by kernel_rfl
  f201 := Tryd.func34.trans (congrArg some (by kernel_rfl))
  f261 := Tryd.func37.trans (congrArg some (by kernel_rfl))
  f311 := Tryd.func40.trans (congrArg some (by kernel_rfl))
  f312 := Tryd.func41.trans (congrArg some (by kernel_rfl))
  t0 := Tryd.underlying0
  a0 := Tryd.isAgg0
  z0 := Tryd.sizeOf0
  v0 := Tryd.zeroValue0
  t3 := Tryd.underlying3
  a3 := Tryd.isAgg3
  z3 := Tryd.sizeOf3
  v3 := Tryd.zeroValue3
  t4 := Tryd.underlying4
  a4 := Tryd.isAgg4
  z4 := Tryd.sizeOf4
  v4 := Tryd.zeroValue4
  t5 := Tryd.underlying5
  a5 := Tryd.isAgg5
  z5 := Tryd.sizeOf5
  v5 := Tryd.zeroValue5
  t21 := Tryd.underlying21
  a21 := Tryd.isAgg21
  z21 := Tryd.sizeOf21
  v21 := Tryd.zeroValue21
  t46 := Tryd.underlying55
  a46 := Tryd.isAgg55
  z46 := Tryd.sizeOf55
  v46 := Tryd.zeroValue55
  t49 := Tryd.underlying43
  a49 := Tryd.isAgg43
  z49 := Tryd.sizeOf43
  v49 := Tryd.zeroValue43
  t51 := Tryd.underlying27
  a51 := Tryd.isAgg27
  z51 := Tryd.sizeOf27
  v51 := Tryd.zeroValue27
  t119 := Tryd.underlying37
  a119 := Tryd.isAgg37
  z119 := Tryd.sizeOf37
  t141 := Tryd.underlying36
  a141 := Tryd.isAgg36
  z141 := Tryd.sizeOf36
  v141 := Tryd.zeroValue36
  t193 := Tryd.underlying39
  a193 := Tryd.isAgg39
  z193 := Tryd.sizeOf39
  v193 := Tryd.zeroValue39
  t194 := Tryd.underlying40
  a194 := Tryd.isAgg40
  z194 := Tryd.sizeOf40
  v194 := Tryd.zeroValue40
  t196 := Tryd.underlying42
  a196 := Tryd.isAgg42
  z196 := Tryd.sizeOf42
  v196 := Tryd.zeroValue42
  t198 := Tryd.underlying45
  a198 := Tryd.isAgg45
  z198 := Tryd.sizeOf45
  v198 := Tryd.zeroValue45
  t201 := Tryd.underlying48
  a201 := Tryd.isAgg48
  z201 := Tryd.sizeOf48
  v201 := Tryd.zeroValue48
  t226 := Tryd.underlying54
  a226 := Tryd.isAgg54
  z226 := Tryd.sizeOf54
  v226 := Tryd.zeroValue54
  t227 := Tryd.underlying56
  a227 := Tryd.isAgg56
  z227 := Tryd.sizeOf56
  v227 := Tryd.zeroValue56
  g7 := by kernel_rfl
  g9 := by kernel_rfl }
open Go.RowKit Go.Lib in
theorem Tryd.unicode_IsUpper (c : Nat) (w : World) (hc : c < 256) (htab : Lib.TabIs Tryd.prog w "unicode.properties" .u8 Lib.propertiesTab) :
    Calls Tryd.prog 34 #[.int .i32 c] w fun e w' => e = .returned (.bool (Lib.isUpperL c)) ∧ w' = w := Any.unicode_IsUpper Tryd.lays201 (by kernel_rfl) c w hc htab
def Tryd.lays311_ren : Go.Shelf.Ren := ⟨fun | 311 => 40 | n => n, fun | 193 => 39 | 49 => 43 | 4 => 4 | 3 => 3 | 0 => 0 | 226 => 54 | 198 => 45 | 46 => 55 | n => n, fun | n => n⟩
theorem Tryd.lays311 : Go.Proofs.Lays.n311 Tryd.prog Tryd.lays311_ren := {
  mixed := by kernel_rfl
  f311 := Tryd.func40.trans (congrArg some (by kernel_rfl))
  t0 := Tryd.underlying0
  a0 := Tryd.isAgg0
  z0 := Tryd.sizeOf0
  v0 := Tryd.zeroValue0
  t3 := Tryd.underlying3
  a3 := Tryd.isAgg3
  z3 := Tryd.sizeOf3
  v3 := Tryd.zeroValue3
  t4 := Tryd.underlying4
  a4 := Tryd.isAgg4
  z4 := Tryd.sizeOf4
  v4 := Tryd.zeroValue4
  t46 := Tryd.underlying55
  a46 := Tryd.isAgg55
  z46 := Tryd.sizeOf55
  v46 := Tryd.zeroValue55
  t49 := Tryd.underlying43
  a49 := Tryd.isAgg43
  z49 := Tryd.sizeOf43
  v49 := Tryd.zeroValue43
  t193 := Tryd.underlying39
  a193 := Tryd.isAgg39
  z193 := Tryd.sizeOf39
  v193 := Tryd.zeroValue39
  t198 := Tryd.underlying45
  a198 := Tryd.isAgg45
  z198 := Tryd.sizeOf45
  v198 := Tryd.zeroValue45
  t226 := Tryd.underlying54
  a226 := Tryd.isAgg54
  z226 := Tryd.sizeOf54
  v226 := Tryd.zeroValue54 }
open Go.RowKit Go.Lib in
theorem Tryd.unicode_is16_white (R oR : Nat) (z : Nat) (w : World) (hz : z < 65536) (hz0 : 255 < z) (c6 : w.cell? ⟨R, oR + 6, none⟩ = some (.int .u16 160)) (c7 : w.cell? ⟨R, oR + 7, none⟩ = some (.int .u16 5760)) (c8 : w.cell? ⟨R, oR + 8, none⟩ = some (.int .u16 5600)) (c9 : w.cell? ⟨R, oR + 9, none⟩ = some (.int .u16 8192)) (c10 : w.cell? ⟨R, oR + 10, none⟩ = some (.int .u16 8202)) (c11 : w.cell? ⟨R, oR + 11, none⟩ = some (.int .u16 1)) (c12 : w.cell? ⟨R, oR + 12, none⟩ = some (.int .u16 8232)) (c13 : w.cell? ⟨R, oR + 13, none⟩ = some (.int .u16 8233)) (c14 : w.cell? ⟨R, oR + 14, none⟩ = some (.int .u16 1)) (c15 : w.cell? ⟨R, oR + 15, none⟩ = some (.int .u16 8239)) (c16 : w.cell? ⟨R, oR + 16, none⟩ = some (.int .u16 8287)) (c17 : w.cell? ⟨R, oR + 17, none⟩ = some (.int .u16 48)) (c18 : w.cell? ⟨R, oR + 18, none⟩ = some (.int .u16 12288)) (c19 : w.cell? ⟨R, oR + 19, none⟩ = some (.int .u16 12288)) (c20 : w.cell? ⟨R, oR + 20, none⟩ = some (.int .u16 1)) :
    Calls Tryd.prog 40 #[.slice (some ⟨R, oR + 6, none⟩) 5 5, .int .u16 z] w fun e w' => e = .returned (.bool (Lib.isSpaceR z)) ∧ Below w.heap.size w w' := Any.unicode_is16_white Tryd.lays311 R oR z w hz hz0 c6 c7 c8 c9 c10 c11 c12 c13 c14 c15 c16 c17 c18 c19 c20
def Tryd.lays261_ren : Go.Shelf.Ren := ⟨fun | 261 => 37 | 311 => 40 | 312 => 41 | n => n, fun | 141 => 36 | 21 => 21 | 4 => 4 | 0 => 0 | 196 => 42 | 193 => 39 | 3 => 3 | 51 => 27 | 198 => 45 | 49 => 43 | 194 => 40 | 201 => 48 | 226 => 54 | 46 => 55 | 227 => 56 | n => n, fun | n => n⟩
theorem Tryd.lays261 : Go.Proofs.Lays.n261 Tryd.prog Tryd.lays261_ren := {
  mixed := by kernel_rfl
  f261 := Tryd.func37.trans (congrArg some (by kernel_rfl))
  f311 := Tryd.func40.trans (congrArg some (by kernel_rfl))
  f312 := Tryd.func41.trans (congrArg some (by kernel_rfl))
  t0 := Tryd.underlying0
  a0 := Tryd.isAgg0
  z0 := Tryd.sizeOf0
  v0 := Tryd.zeroValue0
  t3 := Tryd.underlying3
  a3 := Tryd.isAgg3
  z3 := Tryd.sizeOf3
  v3 := Tryd.zeroValue3
  t4 := Tryd.underlying4
  a4 := Tryd.isAgg4
  z4 := Tryd.sizeOf4
  v4 := Tryd.zeroValue4
  t21 := Tryd.underlying21
  a21 := Tryd.isAgg21
  z21 := Tryd.sizeOf21
  v21 := Tryd.zeroValue21
  t46 := Tryd.underlying55
  a46 := Tryd.isAgg55
  z46 := Tryd.sizeOf55
  v46 := Tryd.zeroValue55
  t49 := Tryd.underlying43
  a49 := Tryd.isAgg43
  z49 := Tryd.sizeOf43
  v49 := Tryd.zeroValue43
  t51 := Tryd.underlying27
  a51 := Tryd.isAgg27
  z51 := Tryd.sizeOf27
  v51 := Tryd.zeroValue27
  t141 := Tryd.underlying36
  a141 := Tryd.isAgg36
  z141 := Tryd.sizeOf36
  v141 := Tryd.zeroValue36
  t193 := Tryd.underlying39
  a193 := Tryd.isAgg39
  z193 := Tryd.sizeOf39
  v193 := Tryd.zeroValue39
  t194 := Tryd.underlying40
  a194 := Tryd.isAgg40
  z194 := Tryd.sizeOf40
  v194 := Tryd.zeroValue40
  t196 := Tryd.underlying42
  a196 := Tryd.isAgg42
  z196 := Tryd.sizeOf42
  v196 := Tryd.zeroValue42
  t198 := Tryd.underlying45
  a198 := Tryd.isAgg45
  z198 := Tryd.sizeOf45
  v198 := Tryd.zeroValue45
  t201 := Tryd.underlying48
  a201 := Tryd.isAgg48
  z201 := Tryd.sizeOf48
  v201 := Tryd.zeroValue48
  t226 := Tryd.underlying54
  a226 := Tryd.isAgg54
  z226 := Tryd.sizeOf54
  v226 := Tryd.zeroValue54
  t227 := Tryd.underlying56
  a227 := Tryd.isAgg56
  z227 := Tryd.sizeOf56
  v227 := Tryd.zeroValue56 }
open Go.RowKit Go.Lib in
/-- unicode.isExcludingLatin(White_Space, r), r beyond U+00FF or negative. (LAID: no walk: one application.) -/
theorem Tryd.unicode_isExcludingLatin_white (T oT R oR : Nat) (r : Int) (w : World) (hlo : -2147483648 ≤ r) (hhi : r ≤ 2147483647) (hr : r < 0 ∨ 255 < r) (h2 : w.cell? ⟨T, oT, none⟩ = some (.slice (some ⟨R, oR, none⟩) 7 7)) (h3 : w.cell? ⟨T, oT + 1, none⟩ = some (.slice none 0 0)) (h4 : w.cell? ⟨T, oT + 2, none⟩ = some (.int .i64 2)) (h5 : ∀ i, i < 21 → w.cell? ⟨R, oR + i, none⟩ = some (.int .u16 (whiteT.getD i 0))) :
    Calls Tryd.prog 37 #[.pointer (some ⟨T, oT, none⟩), .int .i32 r] w fun e w' => e = .returned (.bool (Lib.isSpaceZ r)) ∧ Below w.heap.size w w' := Any.unicode_isExcludingLatin_white Tryd.lays261 T oT R oR r w hlo hhi hr h2 h3 h4 h5
open Go.RowKit Go.Lib in
/-- **unicode.IsSpace AT EVERY int32.** (LAID: no walk: one application.) -/
theorem Tryd.unicode_IsSpace_any (r : Int) (w : World) (hlo : -2147483648 ≤ r) (hhi : r ≤ 2147483647) (hW : Lib.WhiteTab 4 w) :
    Calls Tryd.prog 35 #[.int .i32 r] w fun e w' => e = .returned (.bool (Lib.isSpaceZ r)) ∧ Below w.heap.size w w' := Any.unicode_IsSpace_any Tryd.lays199 r w hlo hhi hW
open Go.RowKit Go.Lib in
theorem Tryd.unicode_is16_white_d (R oR : Nat) (z : Nat) (w : World) (hz : z < 65536) (hz0 : 255 < z) (c6 : w.cell? ⟨R, oR + 6, none⟩ = some (.int .u16 160)) (c7 : w.cell? ⟨R, oR + 7, none⟩ = some (.int .u16 5760)) (c8 : w.cell? ⟨R, oR + 8, none⟩ = some (.int .u16 5600)) (c9 : w.cell? ⟨R, oR + 9, none⟩ = some (.int .u16 8192)) (c10 : w.cell? ⟨R, oR + 10, none⟩ = some (.int .u16 8202)) (c11 : w.cell? ⟨R, oR + 11, none⟩ = some (.int .u16 1)) (c12 : w.cell? ⟨R, oR + 12, none⟩ = some (.int .u16 8232)) (c13 : w.cell? ⟨R, oR + 13, none⟩ = some (.int .u16 8233)) (c14 : w.cell? ⟨R, oR + 14, none⟩ = some (.int .u16 1)) (c15 : w.cell? ⟨R, oR + 15, none⟩ = some (.int .u16 8239)) (c16 : w.cell? ⟨R, oR + 16, none⟩ = some (.int .u16 8287)) (c17 : w.cell? ⟨R, oR + 17, none⟩ = some (.int .u16 48)) (c18 : w.cell? ⟨R, oR + 18, none⟩ = some (.int .u16 12288)) (c19 : w.cell? ⟨R, oR + 19, none⟩ = some (.int .u16 12288)) (c20 : w.cell? ⟨R, oR + 20, none⟩ = some (.int .u16 1)) :
    Calls Tryd.prog 40 #[.slice (some ⟨R, oR + 6, none⟩) 5 5, .int .u16 z] w fun e w' => e = .returned (.bool (Lib.isSpaceR z)) ∧ ∃ q, w' = w.drewN q := Any.unicode_is16_white_d Tryd.lays311 R oR z w hz hz0 c6 c7 c8 c9 c10 c11 c12 c13 c14 c15 c16 c17 c18 c19 c20
open Go.RowKit Go.Lib in
/-- unicode.isExcludingLatin(White_Space, r), r beyond U+00FF or negative. (LAID: no walk: one application.) -/
theorem Tryd.unicode_isExcludingLatin_white_d (T oT R oR : Nat) (r : Int) (w : World) (hlo : -2147483648 ≤ r) (hhi : r ≤ 2147483647) (hr : r < 0 ∨ 255 < r) (h2 : w.cell? ⟨T, oT, none⟩ = some (.slice (some ⟨R, oR, none⟩) 7 7)) (h3 : w.cell? ⟨T, oT + 1, none⟩ = some (.slice none 0 0)) (h4 : w.cell? ⟨T, oT + 2, none⟩ = some (.int .i64 2)) (h5 : ∀ i, i < 21 → w.cell? ⟨R, oR + i, none⟩ = some (.int .u16 (whiteT.getD i 0))) :
    Calls Tryd.prog 37 #[.pointer (some ⟨T, oT, none⟩), .int .i32 r] w fun e w' => e = .returned (.bool (Lib.isSpaceZ r)) ∧ ∃ q, w' = w.drewN q := Any.unicode_isExcludingLatin_white_d Tryd.lays261 T oT R oR r w hlo hhi hr h2 h3 h4 h5
open Go.RowKit Go.Lib in
/-- **unicode.IsSpace AT EVERY int32.** (LAID: no walk: one application.) -/
theorem Tryd.unicode_IsSpace_any_d (r : Int) (w : World) (hlo : -2147483648 ≤ r) (hhi : r ≤ 2147483647) (hW : Lib.WhiteTab 4 w) :
    Calls Tryd.prog 35 #[.int .i32 r] w fun e w' => e = .returned (.bool (Lib.isSpaceZ r)) ∧ ∃ q, w' = w.drewN q := Any.unicode_IsSpace_any_d Tryd.lays199 r w hlo hhi hW
def Tryd.lays274_ren : Go.Shelf.Ren := ⟨fun | 274 => 43 | n => n, fun | 21 => 21 | 162 => 53 | 160 => 57 | 3 => 3 | 4 => 4 | 46 => 55 | 0 => 0 | 208 => 63 | 51 => 27 | 206 => 61 | n => n, fun | n => n⟩
theorem Tryd.lays274 : Go.Proofs.Lays.n274 Tryd.prog Tryd.lays274_ren := {
  mixed := by kernel_rfl
  f274 := Tryd.func43.trans (congrArg some (by kernel_rfl))
  t0 := Tryd.underlying0
  a0 := Tryd.isAgg0
  z0 := Tryd.sizeOf0
  v0 := Tryd.zeroValue0
  t3 := Tryd.underlying3
  a3 := Tryd.isAgg3
  z3 := Tryd.sizeOf3
  v3 := Tryd.zeroValue3
  t4 := Tryd.underlying4
  a4 := Tryd.isAgg4
  z4 := Tryd.sizeOf4
  v4 := Tryd.zeroValue4
  t21 := Tryd.underlying21
  a21 := Tryd.isAgg21
  z21 := Tryd.sizeOf21
  v21 := Tryd.zeroValue21
  t46 := Tryd.underlying55
  a46 := Tryd.isAgg55
  z46 := Tryd.sizeOf55
  v46 := Tryd.zeroValue55
  t51 := Tryd.underlying27
  a51 := Tryd.isAgg27
  z51 := Tryd.sizeOf27
  v51 := Tryd.zeroValue27
  t160 := Tryd.underlying57
  a160 := Tryd.isAgg57
  z160 := Tryd.sizeOf57
  v160 := Tryd.zeroValue57
  t162 := Tryd.underlying53
  a162 := Tryd.isAgg53
  z162 := Tryd.sizeOf53
  v162 := Tryd.zeroValue53
  t208 := Tryd.underlying63
  a208 := Tryd.isAgg63
  z208 := Tryd.sizeOf63
  v208 := Tryd.zeroValue63 }
open Go.RowKit Go.Lib in
theorem Tryd.unicode_lookupCaseRange (T : Array CaseRow) (R oR cap : Nat) (r : Int) (w : World) (hT : CaseTab R oR T w) (hok : CaseOk T) (hn : T.size ≤ 1000000000) :
    Calls Tryd.prog 43 #[.int .i32 r, .slice (some ⟨R, oR, none⟩) T.size cap] w fun e w' =>
      e = .returned (match lookupIdx T r (T.size + 1) 0 T.size with | some i => .pointer (some ⟨R, oR + i * 5, none⟩) | none => .pointer none) ∧ w' = w := Any.unicode_lookupCaseRange Tryd.lays274 T R oR cap r w hT hok hn
def Tryd.lays275_ren : Go.Shelf.Ren := ⟨fun | 275 => 44 | n => n, fun | 3 => 3 | 21 => 21 | 160 => 57 | 0 => 0 | 208 => 63 | 206 => 61 | 4 => 4 | 51 => 27 | n => n, fun | n => n⟩
theorem Tryd.lays275 : Go.Proofs.Lays.n275 Tryd.prog Tryd.lays275_ren := {
  mixed := by kernel_rfl
  f275 := Tryd.func44.trans (congrArg some (by kernel_rfl))
  t0 := Tryd.underlying0
  a0 := Tryd.isAgg0
  z0 := Tryd.sizeOf0
  v0 := Tryd.zeroValue0
  t3 := Tryd.underlying3
  a3 := Tryd.isAgg3
  z3 := Tryd.sizeOf3
  v3 := Tryd.zeroValue3
  t4 := Tryd.underlying4
  a4 := Tryd.isAgg4
  z4 := Tryd.sizeOf4
  v4 := Tryd.zeroValue4
  t21 := Tryd.underlying21
  a21 := Tryd.isAgg21
  z21 := Tryd.sizeOf21
  v21 := Tryd.zeroValue21
  t51 := Tryd.underlying27
  a51 := Tryd.isAgg27
  z51 := Tryd.sizeOf27
  v51 := Tryd.zeroValue27
  t160 := Tryd.underlying57
  a160 := Tryd.isAgg57
  z160 := Tryd.sizeOf57
  v160 := Tryd.zeroValue57
  t206 := Tryd.underlying61
  a206 := Tryd.isAgg61
  z206 := Tryd.sizeOf61
  v206 := Tryd.zeroValue61
  t208 := Tryd.underlying63
  a208 := Tryd.isAgg63
  z208 := Tryd.sizeOf63
  v208 := Tryd.zeroValue63 }
open Go.RowKit Go.Lib in
theorem Tryd.unicode_convertCase (c : Nat) (hc : c < 3) (r : Int) (A o : Nat) (x : CaseRow) (w : World) (hlo : (x.1 : Int) ≤ r) (hhi : r ≤ (x.2.1 : Int)) (hH : x.2.1 < 2147483647) (c0 : w.cell? ⟨A, o, none⟩ = some (.int .u32 x.1)) (cD : w.cell? ⟨A, o + 2 + c, none⟩ = some (.int .i32 (x.delta c))) :
    Calls Tryd.prog 44 #[.int .i64 c, .int .i32 r, .pointer (some ⟨A, o, none⟩)] w fun e w' => e = .returned (.int .i32 (wrap32 (convertR c r x))) ∧ ∃ q, w' = w.drewN q := Any.unicode_convertCase Tryd.lays275 c hc r A o x w hlo hhi hH c0 cD
def Tryd.lays313_ren : Go.Shelf.Ren := ⟨fun | 313 => 42 | 274 => 43 | 275 => 44 | n => n, fun | 3 => 3 | 21 => 21 | 162 => 53 | 4 => 4 | 160 => 57 | 46 => 55 | 0 => 0 | 208 => 63 | 51 => 27 | 206 => 61 | n => n, fun | n => n⟩
theorem Tryd.lays313 : Go.Proofs.Lays.n313 Tryd.prog Tryd.lays313_ren := {
  mixed := by kernel_rfl
  f274 := Tryd.func43.trans (congrArg some (by kernel_rfl))
  f275 := Tryd.func44.trans (congrArg some (by kernel_rfl))
  f313 := Tryd.func42.trans (congrArg some (by kernel_rfl))
  t0 := Tryd.underlying0
  a0 := Tryd.isAgg0
  z0 := Tryd.sizeOf0
  v0 := Tryd.zeroValue0
  t3 := Tryd.underlying3
  a3 := Tryd.isAgg3
  z3 := Tryd.sizeOf3
  v3 := Tryd.zeroValue3
  t4 := Tryd.underlying4
  a4 := Tryd.isAgg4
  z4 := Tryd.sizeOf4
  v4 := Tryd.zeroValue4
  t21 := Tryd.underlying21
  a21 := Tryd.isAgg21
  z21 := Tryd.sizeOf21
  v21 := Tryd.zeroValue21
  t46 := Tryd.underlying55
  a46 := Tryd.isAgg55
  z46 := Tryd.sizeOf55
  v46 := Tryd.zeroValue55
  t51 := Tryd.underlying27
  a51 := Tryd.isAgg27
  z51 := Tryd.sizeOf27
  v51 := Tryd.zeroValue27
  t160 := Tryd.underlying57
  a160 := Tryd.isAgg57
  z160 := Tryd.sizeOf57
  v160 := Tryd.zeroValue57
  t162 := Tryd.underlying53
  a162 := Tryd.isAgg53
  z162 := Tryd.sizeOf53
  v162 := Tryd.zeroValue53
  t206 := Tryd.underlying61
  a206 := Tryd.isAgg61
  z206 := Tryd.sizeOf61
  v206 := Tryd.zeroValue61
  t208 := Tryd.underlying63
  a208 := Tryd.isAgg63
  z208 := Tryd.sizeOf63
  v208 := Tryd.zeroValue63 }
open Go.RowKit Go.Lib in
theorem Tryd.unicode_to (c : Nat) (hc : c < 3) (r : Int) (T : Array CaseRow) (R oR cap : Nat) (w : World) (hT : CaseTab R oR T w) (hok : CaseOk2 T) (hn : T.size ≤ 1000000000) :
    Calls Tryd.prog 42 #[.int .i64 c, .int .i32 r, .slice (some ⟨R, oR, none⟩) T.size cap] w fun e w' => e = .returned (.tuple #[.int .i32 (toW T c r), .bool (lookupIdx T r (T.size + 1) 0 T.size).isSome]) ∧ ∃ q, w' = w.drewN q := Any.unicode_to Tryd.lays313 c hc r T R oR cap w hT hok hn
def Tryd.lays262_ren : Go.Shelf.Ren := ⟨fun | 262 => 39 | 313 => 42 | 274 => 43 | 275 => 44 | n => n, fun | 3 => 3 | 21 => 21 | 162 => 53 | 203 => 51 | 4 => 4 | 160 => 57 | 46 => 55 | 0 => 0 | 208 => 63 | 51 => 27 | 206 => 61 | n => n, fun | 13 => 5 | n => n⟩
theorem Tryd.lays262 : Go.Proofs.Lays.n262 Tryd.prog Tryd.lays262_ren := {
  mixed := by kernel_rfl
  f262 := Tryd.func39.trans (congrArg some (by kernel_rfl))
  f274 := Tryd.func43.trans (congrArg some (by kernel_rfl))
  f275 := Tryd.func44.trans (congrArg some (by kernel_rfl))
  f313 := Tryd.func42.trans (congrArg some (by kernel_rfl))
  t0 := Tryd.underlying0
  a0 := Tryd.isAgg0
  z0 := Tryd.sizeOf0
  v0 := Tryd.zeroValue0
  t3 := Tryd.underlying3
  a3 := Tryd.isAgg3
  z3 := Tryd.sizeOf3
  v3 := Tryd.zeroValue3
  t4 := Tryd.underlying4
  a4 := Tryd.isAgg4
  z4 := Tryd.sizeOf4
  v4 := Tryd.zeroValue4
  t21 := Tryd.underlying21
  a21 := Tryd.isAgg21
  z21 := Tryd.sizeOf21
  v21 := Tryd.zeroValue21
  t46 := Tryd.underlying55
  a46 := Tryd.isAgg55
  z46 := Tryd.sizeOf55
  v46 := Tryd.zeroValue55
  t51 := Tryd.underlying27
  a51 := Tryd.isAgg27
  z51 := Tryd.sizeOf27
  v51 := Tryd.zeroValue27
  t160 := Tryd.underlying57
  a160 := Tryd.isAgg57
  z160 := Tryd.sizeOf57
  v160 := Tryd.zeroValue57
  t162 := Tryd.underlying53
  a162 := Tryd.isAgg53
  z162 := Tryd.sizeOf53
  v162 := Tryd.zeroValue53
  t203 := Tryd.underlying51
  a203 := Tryd.isAgg51
  z203 := Tryd.sizeOf51
  v203 := Tryd.zeroValue51
  t206 := Tryd.underlying61
  a206 := Tryd.isAgg61
  z206 := Tryd.sizeOf61
  v206 := Tryd.zeroValue61
  t208 := Tryd.underlying63
  a208 := Tryd.isAgg63
  z208 := Tryd.sizeOf63
  v208 := Tryd.zeroValue63
  g13 := by kernel_rfl }
open Go.RowKit Go.Lib in
theorem Tryd.unicode_To (c : Nat) (hc : c < 3) (r : Int) (T : Array CaseRow) (w : World) (hV : CaseVar 5 T w) (hok : CaseOk2 T) (hn : T.size ≤ 1000000000) :
    Calls Tryd.prog 39 #[.int .i64 c, .int .i32 r] w fun e w' => e = .returned (.int .i32 (toW T c r)) ∧ ∃ q, w' = w.drewN q := Any.unicode_To Tryd.lays262 c hc r T w hV hok hn
open Go.RowKit Go.Lib in
theorem Tryd.unicode_ToUpper_any (r : Int) (T : Array CaseRow) (w : World) (hV : CaseVar 5 T w) (hok : CaseOk2 T) (hn : T.size ≤ 1000000000) :
    Calls Tryd.prog 36 #[.int .i32 r] w fun e w' => e = .returned (.int .i32 (Lib.toUpperW T r)) ∧ ∃ q, w' = w.drewN q := Any.unicode_ToUpper_any Tryd.lays203 r T w hV hok hn
open Go.RowKit Go.Lib in
theorem Tryd.unicode_ToUpper_laid (r : Int) (w : World) (hV : CaseVar 5 caseA w) :
    Calls Tryd.prog 36 #[.int .i32 r] w fun e w' => e = .returned (.int .i32 (toUpperU r)) ∧ ∃ q, w' = w.drewN q := Any.unicode_ToUpper_laid Tryd.lays203 r w hV
open Go.RowKit Go.Lib in
theorem Tryd.unicode_is16_any (T : Array Rg) (R oR cap : Nat) (z : Nat) (w : World) (hz : z < 65536) (hT : RgTab .u16 R oR T w) (hok : RgOk 65536 T) (hn : T.size ≤ 1000000000) :
    Calls Tryd.prog 40 #[.slice (some ⟨R, oR, none⟩) T.size cap, .int .u16 z] w fun e w' => e = .returned (.bool (is16Go T z)) ∧ ∃ q, w' = w.drewN q := Any.unicode_is16_any Tryd.lays311 T R oR cap z w hz hT hok hn
def Tryd.lays312_ren : Go.Shelf.Ren := ⟨fun | 312 => 41 | n => n, fun | 194 => 40 | 51 => 27 | 4 => 4 | 3 => 3 | 0 => 0 | 227 => 56 | 201 => 48 | 46 => 55 | n => n, fun | n => n⟩
theorem Tryd.lays312 : Go.Proofs.Lays.n312 Tryd.prog Tryd.lays312_ren := {
  mixed := by kernel_rfl
  f312 := Tryd.func41.trans (congrArg some (by kernel_rfl))
  t0 := Tryd.underlying0
  a0 := Tryd.isAgg0
  z0 := Tryd.sizeOf0
  v0 := Tryd.zeroValue0
  t3 := Tryd.underlying3
  a3 := Tryd.isAgg3
  z3 := Tryd.sizeOf3
  v3 := Tryd.zeroValue3
  t4 := Tryd.underlying4
  a4 := Tryd.isAgg4
  z4 := Tryd.sizeOf4
  v4 := Tryd.zeroValue4
  t46 := Tryd.underlying55
  a46 := Tryd.isAgg55
  z46 := Tryd.sizeOf55
  v46 := Tryd.zeroValue55
  t51 := Tryd.underlying27
  a51 := Tryd.isAgg27
  z51 := Tryd.sizeOf27
  v51 := Tryd.zeroValue27
  t194 := Tryd.underlying40
  a194 := Tryd.isAgg40
  z194 := Tryd.sizeOf40
  v194 := Tryd.zeroValue40
  t201 := Tryd.underlying48
  a201 := Tryd.isAgg48
  z201 := Tryd.sizeOf48
  v201 := Tryd.zeroValue48
  t227 := Tryd.underlying56
  a227 := Tryd.isAgg56
  z227 := Tryd.sizeOf56
  v227 := Tryd.zeroValue56 }
open Go.RowKit Go.Lib in
theorem Tryd.unicode_is32_any (T : Array Rg) (R oR cap : Nat) (z : Nat) (w : World) (hz : z < 4294967296) (hT : RgTab .u32 R oR T w) (hok : RgOk 4294967296 T) (hn : T.size ≤ 1000000000) :
    Calls Tryd.prog 41 #[.slice (some ⟨R, oR, none⟩) T.size cap, .int .u32 z] w fun e w' => e = .returned (.bool (is32Go T z)) ∧ Below w.heap.size w w' := Any.unicode_is32_any Tryd.lays312 T R oR cap z w hz hT hok hn
open Go.RowKit Go.Lib in
theorem Tryd.unicode_isExcludingLatin_any (Tb oT : Nat) (T : RTab) (r : Int) (w : World) (hlo : -2147483648 ≤ r) (hhi : r ≤ 2147483647) (hA : RTabAt Tb oT T w) (hok : RTabOk T) :
    Calls Tryd.prog 37 #[.pointer (some ⟨Tb, oT, none⟩), .int .i32 r] w fun e w' => e = .returned (.bool (exclGo T r)) ∧ Below w.heap.size w w' := Any.unicode_isExcludingLatin_any Tryd.lays261 Tb oT T r w hlo hhi hA hok
open Go.RowKit Go.Lib in
/-- unicode.IsLetter(r) AT EVERY int32, over whatever table the variable unicode.Letter leads to. (LAID: no walk: one application.) -/
theorem Tryd.unicode_IsLetter_any (T : RTab) (r : Int) (w : World) (hlo : -2147483648 ≤ r) (hhi : r ≤ 2147483647) (htab : Lib.TabIs Tryd.prog w "unicode.properties" .u8 Lib.propertiesTab) (hV : RVar 2 T w) (hok : RTabOk T) :
    Calls Tryd.prog 30 #[.int .i32 r] w fun e w' => e = .returned (.bool (if latin1 r then isLetterL r else exclGo T r)) ∧ Below w.heap.size w w' := Any.unicode_IsLetter_any Tryd.lays200 (by kernel_rfl) T r w hlo hhi htab hV hok
open Go.RowKit Go.Lib in
/-- unicode.IsUpper(r) AT EVERY int32, over whatever table the variable unicode.Upper leads to. (LAID: no walk: one application.) -/
theorem Tryd.unicode_IsUpper_any (T : RTab) (r : Int) (w : World) (hlo : -2147483648 ≤ r) (hhi : r ≤ 2147483647) (htab : Lib.TabIs Tryd.prog w "unicode.properties" .u8 Lib.propertiesTab) (hV : RVar 3 T w) (hok : RTabOk T) :
    Calls Tryd.prog 34 #[.int .i32 r] w fun e w' => e = .returned (.bool (if latin1 r then isUpperL r else exclGo T r)) ∧ Below w.heap.size w w' := Any.unicode_IsUpper_any Tryd.lays201 (by kernel_rfl) T r w hlo hhi htab hV hok
open Go.RowKit Go.Lib in
/-- unicode.IsDigit(r) AT EVERY int32, over whatever table the variable unicode.Digit leads to. (LAID: no walk: one application.) -/
theorem Tryd.unicode_IsDigit_any (T : RTab) (r : Int) (w : World) (hlo : -2147483648 ≤ r) (hhi : r ≤ 2147483647) (hV : RVar 0 T w) (hok : RTabOk T) :
    Calls Tryd.prog 26 #[.int .i32 r] w fun e w' => e = .returned (.bool (if r ≤ 255 then isDigitL r else exclGo T r)) ∧ Below w.heap.size w w' := Any.unicode_IsDigit_any Tryd.lays198 T r w hlo hhi hV hok
open Go.RowKit Go.Lib in
/-- unicode.IsLetter(r) AT EVERY int32, the tables as their initialisers lay them: 'Lib.isLetterU r'. (LAID: no walk: one application.) -/
theorem Tryd.unicode_IsLetter_all (r : Int) (w : World) (hlo : -2147483648 ≤ r) (hhi : r ≤ 2147483647) (htab : Lib.TabIs Tryd.prog w "unicode.properties" .u8 Lib.propertiesTab) (hV : RVar 2 letterT w) :
    Calls Tryd.prog 30 #[.int .i32 r] w fun e w' => e = .returned (.bool (isLetterU r)) ∧ Below w.heap.size w w' := Any.unicode_IsLetter_all Tryd.lays200 (by kernel_rfl) r w hlo hhi htab hV
open Go.RowKit Go.Lib in
/-- unicode.IsUpper(r) AT EVERY int32, the tables as their initialisers lay them: 'Lib.isUpperU r'. (LAID: no walk: one application.) -/
theorem Tryd.unicode_IsUpper_all (r : Int) (w : World) (hlo : -2147483648 ≤ r) (hhi : r ≤ 2147483647) (htab : Lib.TabIs Tryd.prog w "unicode.properties" .u8 Lib.propertiesTab) (hV : RVar 3 upperT w) :
    Calls Tryd.prog 34 #[.int .i32 r] w fun e w' => e = .returned (.bool (isUpperU r)) ∧ Below w.heap.size w w' := Any.unicode_IsUpper_all Tryd.lays201 (by kernel_rfl) r w hlo hhi htab hV
open Go.RowKit Go.Lib in
/-- unicode.IsDigit(r) AT EVERY int32: 'Lib.isDigitU r'. (LAID: no walk: one application.) -/
theorem Tryd.unicode_IsDigit_all (r : Int) (w : World) (hlo : -2147483648 ≤ r) (hhi : r ≤ 2147483647) (hV : RVar 0 digitT w) :
    Calls Tryd.prog 26 #[.int .i32 r] w fun e w' => e = .returned (.bool (isDigitU r)) ∧ Below w.heap.size w w' := Any.unicode_IsDigit_all Tryd.lays198 r w hlo hhi hV
end Go.Proofs
