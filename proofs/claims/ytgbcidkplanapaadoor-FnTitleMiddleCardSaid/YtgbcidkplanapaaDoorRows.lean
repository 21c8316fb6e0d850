/-
  NARROWER THAN 'FOR EVERY INPUT', by the rows' own cells (each row's printed sentence says how): FnToLowerTwice: laid · FnToTitle: laid · FnToTitleTwice: laid · FnToUpper: laid · FnToUpperTwice: laid · FnLowerUpper: laid · FnTitleUpper: laid · FnUpperLower: laid · FnInvalidMap: laid · FnMapASCII: laid · FnTitleGeorgian: laid · FnTitleMiddle: laid.
  DERIVED. THE GIVEN ROWS OF THIS SEAT. 12 by the template 'for every input the law returns true; each argument reads behind the call as it read before'; 0 by the template 'total and deterministic' (their statements: YtgbcidkplanapaaDoorTotals.lean).
  GIVEN WITH THE SEED: the statements are not yours to turn. If you find one false, say at which input.
  Laid BY PROGRAM, IN A SANDBOX (cutbox-rows.mjs): the forced cells as the released guide's own fill.sh prints them over the translation b265678dda10dd26… (all of the seat's roots in one cut). By AI agents, Wed Nov 11 2026. No macro, syntax, notation, axiom, sorry.
-/
import Derived.Test.YtgbcidkplanapaaDoorChecked
import GoSem.PinnedTables
import GoSem.Claim
import GoSem.ClaimJoined
import GoSem.ClaimMapViews
import Derived.JoinedTies
import Derived.KernelRfl
namespace Go.Proofs.YtgbcidkplanapaaDoor
/- THE CELL 'sum', in the pinned program and in every row, IS THE sha256 OF THE DUMP (.gsa) THAT YtgbcidkplanapaaDoorProg.lean LOADS. Nothing in Lean hashes anything: it is a label: what it is worth is what the hold of that sum in a sandbox is worth. -/
noncomputable def Tryd.pinned : Pinned := { name := "ytgbcidkplanapaadoor", sum := "b265678dda10dd26cb4f4364496860fd6509ce700cf834fbad5e3fd082ab400b", checked := Tryd.checked }
namespace Rows
def none {H : Type} : Left H := { results := [], args := [] }

/- WHAT THE LISTED PACKAGE-LEVEL VARIABLES READ AS WHEN THE CALL BEGINS. Each datum BY PROGRAM (the guide's laid-datum.mjs) off the statement by which the dump's own 'gosem.cut.vars' lays the variable. In a bare row this is a premise. The card (YtgbcidkplanapaaDoorCards.lean) ties it to the program's text. -/
/-- One of Go's own tables, pinned by name: the form's constant. -/
def laid_unicode_CaseRanges : DataW Unit := Go.Pinned.caseRanges

/-- 'laws.FnToLowerTwice': WHATEVER THE INPUT: true; the input reads as it did. -/
def fnToLowerTwiceSpec : ChangeSpec := { name := "fnToLowerTwice", fn := fun _ => fun
  | [d] => { results := [.lit (.bool true)], args := [d] }
  | _ => none }
def fnToLowerTwiceRow : OpenClaim := { program := "ytgbcidkplanapaadoor", sum := "b265678dda10dd26cb4f4364496860fd6509ce700cf834fbad5e3fd082ab400b", func := "loop.example/lib-runeclasses/laws.FnToLowerTwice", spec := "fnToLowerTwice", named := ["unicode.CaseRanges"], apart := false, laid := [("unicode.CaseRanges", laid_unicode_CaseRanges)] }
def FnToLowerTwiceSaid : Prop := fnToLowerTwiceRow.holds Tryd.pinned (OpenSpec.ofChange fnToLowerTwiceSpec)

/-- ITS FALSE NEIGHBOUR: 'it returns false'. Refute it at one input. -/
def fnToLowerTwiceWrong : ChangeSpec := { name := "fnToLowerTwice", fn := fun _ => fun
  | [d] => { results := [.lit (.bool false)], args := [d] }
  | _ => none }
def FnToLowerTwiceWrongFalsely : Prop := fnToLowerTwiceRow.holds Tryd.pinned (OpenSpec.ofChange fnToLowerTwiceWrong)

/-- 'laws.FnToTitle': WHATEVER THE INPUT: true; the input reads as it did. -/
def fnToTitleSpec : ChangeSpec := { name := "fnToTitle", fn := fun _ => fun
  | [d] => { results := [.lit (.bool true)], args := [d] }
  | _ => none }
def fnToTitleRow : OpenClaim := { program := "ytgbcidkplanapaadoor", sum := "b265678dda10dd26cb4f4364496860fd6509ce700cf834fbad5e3fd082ab400b", func := "loop.example/lib-runeclasses/laws.FnToTitle", spec := "fnToTitle", named := ["unicode.CaseRanges"], apart := false, laid := [("unicode.CaseRanges", laid_unicode_CaseRanges)] }
def FnToTitleSaid : Prop := fnToTitleRow.holds Tryd.pinned (OpenSpec.ofChange fnToTitleSpec)

/-- ITS FALSE NEIGHBOUR: 'it returns false'. Refute it at one input. -/
def fnToTitleWrong : ChangeSpec := { name := "fnToTitle", fn := fun _ => fun
  | [d] => { results := [.lit (.bool false)], args := [d] }
  | _ => none }
def FnToTitleWrongFalsely : Prop := fnToTitleRow.holds Tryd.pinned (OpenSpec.ofChange fnToTitleWrong)

/-- 'laws.FnToTitleTwice': WHATEVER THE INPUT: true; the input reads as it did. -/
def fnToTitleTwiceSpec : ChangeSpec := { name := "fnToTitleTwice", fn := fun _ => fun
  | [d] => { results := [.lit (.bool true)], args := [d] }
  | _ => none }
def fnToTitleTwiceRow : OpenClaim := { program := "ytgbcidkplanapaadoor", sum := "b265678dda10dd26cb4f4364496860fd6509ce700cf834fbad5e3fd082ab400b", func := "loop.example/lib-runeclasses/laws.FnToTitleTwice", spec := "fnToTitleTwice", named := ["unicode.CaseRanges"], apart := false, laid := [("unicode.CaseRanges", laid_unicode_CaseRanges)] }
def FnToTitleTwiceSaid : Prop := fnToTitleTwiceRow.holds Tryd.pinned (OpenSpec.ofChange fnToTitleTwiceSpec)

/-- ITS FALSE NEIGHBOUR: 'it returns false'. Refute it at one input. -/
def fnToTitleTwiceWrong : ChangeSpec := { name := "fnToTitleTwice", fn := fun _ => fun
  | [d] => { results := [.lit (.bool false)], args := [d] }
  | _ => none }
def FnToTitleTwiceWrongFalsely : Prop := fnToTitleTwiceRow.holds Tryd.pinned (OpenSpec.ofChange fnToTitleTwiceWrong)

/-- 'laws.FnToUpper': WHATEVER THE INPUT: true; the input reads as it did. -/
def fnToUpperSpec : ChangeSpec := { name := "fnToUpper", fn := fun _ => fun
  | [d] => { results := [.lit (.bool true)], args := [d] }
  | _ => none }
def fnToUpperRow : OpenClaim := { program := "ytgbcidkplanapaadoor", sum := "b265678dda10dd26cb4f4364496860fd6509ce700cf834fbad5e3fd082ab400b", func := "loop.example/lib-runeclasses/laws.FnToUpper", spec := "fnToUpper", named := ["unicode.CaseRanges"], apart := false, laid := [("unicode.CaseRanges", laid_unicode_CaseRanges)] }
def FnToUpperSaid : Prop := fnToUpperRow.holds Tryd.pinned (OpenSpec.ofChange fnToUpperSpec)

/-- ITS FALSE NEIGHBOUR: 'it returns false'. Refute it at one input. -/
def fnToUpperWrong : ChangeSpec := { name := "fnToUpper", fn := fun _ => fun
  | [d] => { results := [.lit (.bool false)], args := [d] }
  | _ => none }
def FnToUpperWrongFalsely : Prop := fnToUpperRow.holds Tryd.pinned (OpenSpec.ofChange fnToUpperWrong)

/-- 'laws.FnToUpperTwice': WHATEVER THE INPUT: true; the input reads as it did. -/
def fnToUpperTwiceSpec : ChangeSpec := { name := "fnToUpperTwice", fn := fun _ => fun
  | [d] => { results := [.lit (.bool true)], args := [d] }
  | _ => none }
def fnToUpperTwiceRow : OpenClaim := { program := "ytgbcidkplanapaadoor", sum := "b265678dda10dd26cb4f4364496860fd6509ce700cf834fbad5e3fd082ab400b", func := "loop.example/lib-runeclasses/laws.FnToUpperTwice", spec := "fnToUpperTwice", named := ["unicode.CaseRanges"], apart := false, laid := [("unicode.CaseRanges", laid_unicode_CaseRanges)] }
def FnToUpperTwiceSaid : Prop := fnToUpperTwiceRow.holds Tryd.pinned (OpenSpec.ofChange fnToUpperTwiceSpec)

/-- ITS FALSE NEIGHBOUR: 'it returns false'. Refute it at one input. -/
def fnToUpperTwiceWrong : ChangeSpec := { name := "fnToUpperTwice", fn := fun _ => fun
  | [d] => { results := [.lit (.bool false)], args := [d] }
  | _ => none }
def FnToUpperTwiceWrongFalsely : Prop := fnToUpperTwiceRow.holds Tryd.pinned (OpenSpec.ofChange fnToUpperTwiceWrong)

/-- 'laws.FnLowerUpper': WHATEVER THE INPUT: true; the input reads as it did. -/
def fnLowerUpperSpec : ChangeSpec := { name := "fnLowerUpper", fn := fun _ => fun
  | [d] => { results := [.lit (.bool true)], args := [d] }
  | _ => none }
def fnLowerUpperRow : OpenClaim := { program := "ytgbcidkplanapaadoor", sum := "b265678dda10dd26cb4f4364496860fd6509ce700cf834fbad5e3fd082ab400b", func := "loop.example/lib-runeclasses/laws.FnLowerUpper", spec := "fnLowerUpper", named := ["unicode.CaseRanges"], apart := false, laid := [("unicode.CaseRanges", laid_unicode_CaseRanges)] }
def FnLowerUpperSaid : Prop := fnLowerUpperRow.holds Tryd.pinned (OpenSpec.ofChange fnLowerUpperSpec)

/-- ITS FALSE NEIGHBOUR: 'it returns false'. Refute it at one input. -/
def fnLowerUpperWrong : ChangeSpec := { name := "fnLowerUpper", fn := fun _ => fun
  | [d] => { results := [.lit (.bool false)], args := [d] }
  | _ => none }
def FnLowerUpperWrongFalsely : Prop := fnLowerUpperRow.holds Tryd.pinned (OpenSpec.ofChange fnLowerUpperWrong)

/-- 'laws.FnTitleUpper': WHATEVER THE INPUT: true; the input reads as it did. -/
def fnTitleUpperSpec : ChangeSpec := { name := "fnTitleUpper", fn := fun _ => fun
  | [d] => { results := [.lit (.bool true)], args := [d] }
  | _ => none }
def fnTitleUpperRow : OpenClaim := { program := "ytgbcidkplanapaadoor", sum := "b265678dda10dd26cb4f4364496860fd6509ce700cf834fbad5e3fd082ab400b", func := "loop.example/lib-runeclasses/laws.FnTitleUpper", spec := "fnTitleUpper", named := ["unicode.CaseRanges"], apart := false, laid := [("unicode.CaseRanges", laid_unicode_CaseRanges)] }
def FnTitleUpperSaid : Prop := fnTitleUpperRow.holds Tryd.pinned (OpenSpec.ofChange fnTitleUpperSpec)

/-- ITS FALSE NEIGHBOUR: 'it returns false'. Refute it at one input. -/
def fnTitleUpperWrong : ChangeSpec := { name := "fnTitleUpper", fn := fun _ => fun
  | [d] => { results := [.lit (.bool false)], args := [d] }
  | _ => none }
def FnTitleUpperWrongFalsely : Prop := fnTitleUpperRow.holds Tryd.pinned (OpenSpec.ofChange fnTitleUpperWrong)

/-- 'laws.FnUpperLower': WHATEVER THE INPUT: true; the input reads as it did. -/
def fnUpperLowerSpec : ChangeSpec := { name := "fnUpperLower", fn := fun _ => fun
  | [d] => { results := [.lit (.bool true)], args := [d] }
  | _ => none }
def fnUpperLowerRow : OpenClaim := { program := "ytgbcidkplanapaadoor", sum := "b265678dda10dd26cb4f4364496860fd6509ce700cf834fbad5e3fd082ab400b", func := "loop.example/lib-runeclasses/laws.FnUpperLower", spec := "fnUpperLower", named := ["unicode.CaseRanges"], apart := false, laid := [("unicode.CaseRanges", laid_unicode_CaseRanges)] }
def FnUpperLowerSaid : Prop := fnUpperLowerRow.holds Tryd.pinned (OpenSpec.ofChange fnUpperLowerSpec)

/-- ITS FALSE NEIGHBOUR: 'it returns false'. Refute it at one input. -/
def fnUpperLowerWrong : ChangeSpec := { name := "fnUpperLower", fn := fun _ => fun
  | [d] => { results := [.lit (.bool false)], args := [d] }
  | _ => none }
def FnUpperLowerWrongFalsely : Prop := fnUpperLowerRow.holds Tryd.pinned (OpenSpec.ofChange fnUpperLowerWrong)

/-- 'laws.FnInvalidMap': WHATEVER THE INPUT: true; the input reads as it did. -/
def fnInvalidMapSpec : ChangeSpec := { name := "fnInvalidMap", fn := fun _ => fun
  | [d] => { results := [.lit (.bool true)], args := [d] }
  | _ => none }
def fnInvalidMapRow : OpenClaim := { program := "ytgbcidkplanapaadoor", sum := "b265678dda10dd26cb4f4364496860fd6509ce700cf834fbad5e3fd082ab400b", func := "loop.example/lib-runeclasses/laws.FnInvalidMap", spec := "fnInvalidMap", named := ["unicode.CaseRanges"], apart := false, laid := [("unicode.CaseRanges", laid_unicode_CaseRanges)] }
def FnInvalidMapSaid : Prop := fnInvalidMapRow.holds Tryd.pinned (OpenSpec.ofChange fnInvalidMapSpec)

/-- ITS FALSE NEIGHBOUR: 'it returns false'. Refute it at one input. -/
def fnInvalidMapWrong : ChangeSpec := { name := "fnInvalidMap", fn := fun _ => fun
  | [d] => { results := [.lit (.bool false)], args := [d] }
  | _ => none }
def FnInvalidMapWrongFalsely : Prop := fnInvalidMapRow.holds Tryd.pinned (OpenSpec.ofChange fnInvalidMapWrong)

/-- 'laws.FnMapASCII': WHATEVER THE INPUT: true; the input reads as it did. -/
def fnMapASCIISpec : ChangeSpec := { name := "fnMapASCII", fn := fun _ => fun
  | [d] => { results := [.lit (.bool true)], args := [d] }
  | _ => none }
def fnMapASCIIRow : OpenClaim := { program := "ytgbcidkplanapaadoor", sum := "b265678dda10dd26cb4f4364496860fd6509ce700cf834fbad5e3fd082ab400b", func := "loop.example/lib-runeclasses/laws.FnMapASCII", spec := "fnMapASCII", named := ["unicode.CaseRanges"], apart := false, laid := [("unicode.CaseRanges", laid_unicode_CaseRanges)] }
def FnMapASCIISaid : Prop := fnMapASCIIRow.holds Tryd.pinned (OpenSpec.ofChange fnMapASCIISpec)

/-- ITS FALSE NEIGHBOUR: 'it returns false'. Refute it at one input. -/
def fnMapASCIIWrong : ChangeSpec := { name := "fnMapASCII", fn := fun _ => fun
  | [d] => { results := [.lit (.bool false)], args := [d] }
  | _ => none }
def FnMapASCIIWrongFalsely : Prop := fnMapASCIIRow.holds Tryd.pinned (OpenSpec.ofChange fnMapASCIIWrong)

/-- 'laws.FnTitleGeorgian': WHATEVER THE INPUT: true; the input reads as it did. -/
def fnTitleGeorgianSpec : ChangeSpec := { name := "fnTitleGeorgian", fn := fun _ => fun
  | [d] => { results := [.lit (.bool true)], args := [d] }
  | _ => none }
def fnTitleGeorgianRow : OpenClaim := { program := "ytgbcidkplanapaadoor", sum := "b265678dda10dd26cb4f4364496860fd6509ce700cf834fbad5e3fd082ab400b", func := "loop.example/lib-runeclasses/laws.FnTitleGeorgian", spec := "fnTitleGeorgian", named := ["unicode.CaseRanges"], apart := false, laid := [("unicode.CaseRanges", laid_unicode_CaseRanges)] }
def FnTitleGeorgianSaid : Prop := fnTitleGeorgianRow.holds Tryd.pinned (OpenSpec.ofChange fnTitleGeorgianSpec)

/-- ITS FALSE NEIGHBOUR: 'it returns false'. Refute it at one input. -/
def fnTitleGeorgianWrong : ChangeSpec := { name := "fnTitleGeorgian", fn := fun _ => fun
  | [d] => { results := [.lit (.bool false)], args := [d] }
  | _ => none }
def FnTitleGeorgianWrongFalsely : Prop := fnTitleGeorgianRow.holds Tryd.pinned (OpenSpec.ofChange fnTitleGeorgianWrong)

/-- 'laws.FnTitleMiddle': WHATEVER THE INPUT: true; the input reads as it did. -/
def fnTitleMiddleSpec : ChangeSpec := { name := "fnTitleMiddle", fn := fun _ => fun
  | [d] => { results := [.lit (.bool true)], args := [d] }
  | _ => none }
def fnTitleMiddleRow : OpenClaim := { program := "ytgbcidkplanapaadoor", sum := "b265678dda10dd26cb4f4364496860fd6509ce700cf834fbad5e3fd082ab400b", func := "loop.example/lib-runeclasses/laws.FnTitleMiddle", spec := "fnTitleMiddle", named := ["unicode.CaseRanges"], apart := false, laid := [("unicode.CaseRanges", laid_unicode_CaseRanges)] }
def FnTitleMiddleSaid : Prop := fnTitleMiddleRow.holds Tryd.pinned (OpenSpec.ofChange fnTitleMiddleSpec)

/-- ITS FALSE NEIGHBOUR: 'it returns false'. Refute it at one input. -/
def fnTitleMiddleWrong : ChangeSpec := { name := "fnTitleMiddle", fn := fun _ => fun
  | [d] => { results := [.lit (.bool false)], args := [d] }
  | _ => none }
def FnTitleMiddleWrongFalsely : Prop := fnTitleMiddleRow.holds Tryd.pinned (OpenSpec.ofChange fnTitleMiddleWrong)

/- THE SECOND FORM. 'bulk': how many values and letters a reading holds, each counted each time it is reached (what is shared counts as often as it is met; a slice's spare places count too). A statement '..UptoSaid' is the law's where the arguments, and the package variables that the reading takes, are together of bulk at most 1048576: NARROWER than '..Said'. Prove '..Said' where nothing that the law and all that it calls make is longer than what came in: it says more and counts as full. Else prove '..UptoSaid'. A law counts once. -/
mutual
def uptoBulk {H : Type} : DataW H → Nat
  | .lit (.string bytes) => bytes.length + 1
  | .lit _ => 1
  | .nil => 1
  | .ptr d => uptoBulk d + 1
  | .slice elems spare => uptoBulkAll elems + uptoBulkAll spare + 1
  | .agg parts => uptoBulkAll parts + 1
  | .iface _ d => uptoBulk d + 1
  | .map entries => uptoBulkEntries entries + 1
  | .held _ => 1
def uptoBulkAll {H : Type} : List (DataW H) → Nat
  | [] => 0
  | d :: r => uptoBulk d + uptoBulkAll r
def uptoBulkEntries {H : Type} : List (Lit × DataW H) → Nat
  | [] => 0
  | x :: r => uptoBulkEntry x + uptoBulkEntries r
def uptoBulkEntry {H : Type} : Lit × DataW H → Nat
  | (.string bytes, d) => bytes.length + uptoBulk d + 1
  | (_, d) => uptoBulk d + 1
 end
def uptoSmall : (H : Type) → List (DataW H) → Bool := fun _ ds => decide (uptoBulkAll ds ≤ 1048576)
def OpenSpec.upto (s : _root_.Go.ChangeSpec) : _root_.Go.OpenSpec := { _root_.Go.OpenSpec.ofChange s with cond := some uptoSmall }

/-- 'laws.FnToLowerTwice', WHERE WHAT IT READS IS OF BULK AT MOST 1048576: true; the input reads as it did. -/
def fnToLowerTwiceUptoRow : OpenClaim := { program := "ytgbcidkplanapaadoor", sum := "b265678dda10dd26cb4f4364496860fd6509ce700cf834fbad5e3fd082ab400b", func := "loop.example/lib-runeclasses/laws.FnToLowerTwice", spec := "fnToLowerTwice", named := ["unicode.CaseRanges"], apart := false, laid := [("unicode.CaseRanges", laid_unicode_CaseRanges)], narrowed := true }
def FnToLowerTwiceUptoSaid : Prop := fnToLowerTwiceUptoRow.holds Tryd.pinned (OpenSpec.upto fnToLowerTwiceSpec)

/-- 'laws.FnToTitle', WHERE WHAT IT READS IS OF BULK AT MOST 1048576: true; the input reads as it did. -/
def fnToTitleUptoRow : OpenClaim := { program := "ytgbcidkplanapaadoor", sum := "b265678dda10dd26cb4f4364496860fd6509ce700cf834fbad5e3fd082ab400b", func := "loop.example/lib-runeclasses/laws.FnToTitle", spec := "fnToTitle", named := ["unicode.CaseRanges"], apart := false, laid := [("unicode.CaseRanges", laid_unicode_CaseRanges)], narrowed := true }
def FnToTitleUptoSaid : Prop := fnToTitleUptoRow.holds Tryd.pinned (OpenSpec.upto fnToTitleSpec)

/-- 'laws.FnToTitleTwice', WHERE WHAT IT READS IS OF BULK AT MOST 1048576: true; the input reads as it did. -/
def fnToTitleTwiceUptoRow : OpenClaim := { program := "ytgbcidkplanapaadoor", sum := "b265678dda10dd26cb4f4364496860fd6509ce700cf834fbad5e3fd082ab400b", func := "loop.example/lib-runeclasses/laws.FnToTitleTwice", spec := "fnToTitleTwice", named := ["unicode.CaseRanges"], apart := false, laid := [("unicode.CaseRanges", laid_unicode_CaseRanges)], narrowed := true }
def FnToTitleTwiceUptoSaid : Prop := fnToTitleTwiceUptoRow.holds Tryd.pinned (OpenSpec.upto fnToTitleTwiceSpec)

/-- 'laws.FnToUpper', WHERE WHAT IT READS IS OF BULK AT MOST 1048576: true; the input reads as it did. -/
def fnToUpperUptoRow : OpenClaim := { program := "ytgbcidkplanapaadoor", sum := "b265678dda10dd26cb4f4364496860fd6509ce700cf834fbad5e3fd082ab400b", func := "loop.example/lib-runeclasses/laws.FnToUpper", spec := "fnToUpper", named := ["unicode.CaseRanges"], apart := false, laid := [("unicode.CaseRanges", laid_unicode_CaseRanges)], narrowed := true }
def FnToUpperUptoSaid : Prop := fnToUpperUptoRow.holds Tryd.pinned (OpenSpec.upto fnToUpperSpec)

/-- 'laws.FnToUpperTwice', WHERE WHAT IT READS IS OF BULK AT MOST 1048576: true; the input reads as it did. -/
def fnToUpperTwiceUptoRow : OpenClaim := { program := "ytgbcidkplanapaadoor", sum := "b265678dda10dd26cb4f4364496860fd6509ce700cf834fbad5e3fd082ab400b", func := "loop.example/lib-runeclasses/laws.FnToUpperTwice", spec := "fnToUpperTwice", named := ["unicode.CaseRanges"], apart := false, laid := [("unicode.CaseRanges", laid_unicode_CaseRanges)], narrowed := true }
def FnToUpperTwiceUptoSaid : Prop := fnToUpperTwiceUptoRow.holds Tryd.pinned (OpenSpec.upto fnToUpperTwiceSpec)

/-- 'laws.FnLowerUpper', WHERE WHAT IT READS IS OF BULK AT MOST 1048576: true; the input reads as it did. -/
def fnLowerUpperUptoRow : OpenClaim := { program := "ytgbcidkplanapaadoor", sum := "b265678dda10dd26cb4f4364496860fd6509ce700cf834fbad5e3fd082ab400b", func := "loop.example/lib-runeclasses/laws.FnLowerUpper", spec := "fnLowerUpper", named := ["unicode.CaseRanges"], apart := false, laid := [("unicode.CaseRanges", laid_unicode_CaseRanges)], narrowed := true }
def FnLowerUpperUptoSaid : Prop := fnLowerUpperUptoRow.holds Tryd.pinned (OpenSpec.upto fnLowerUpperSpec)

/-- 'laws.FnTitleUpper', WHERE WHAT IT READS IS OF BULK AT MOST 1048576: true; the input reads as it did. -/
def fnTitleUpperUptoRow : OpenClaim := { program := "ytgbcidkplanapaadoor", sum := "b265678dda10dd26cb4f4364496860fd6509ce700cf834fbad5e3fd082ab400b", func := "loop.example/lib-runeclasses/laws.FnTitleUpper", spec := "fnTitleUpper", named := ["unicode.CaseRanges"], apart := false, laid := [("unicode.CaseRanges", laid_unicode_CaseRanges)], narrowed := true }
def FnTitleUpperUptoSaid : Prop := fnTitleUpperUptoRow.holds Tryd.pinned (OpenSpec.upto fnTitleUpperSpec)

/-- 'laws.FnUpperLower', WHERE WHAT IT READS IS OF BULK AT MOST 1048576: true; the input reads as it did. -/
def fnUpperLowerUptoRow : OpenClaim := { program := "ytgbcidkplanapaadoor", sum := "b265678dda10dd26cb4f4364496860fd6509ce700cf834fbad5e3fd082ab400b", func := "loop.example/lib-runeclasses/laws.FnUpperLower", spec := "fnUpperLower", named := ["unicode.CaseRanges"], apart := false, laid := [("unicode.CaseRanges", laid_unicode_CaseRanges)], narrowed := true }
def FnUpperLowerUptoSaid : Prop := fnUpperLowerUptoRow.holds Tryd.pinned (OpenSpec.upto fnUpperLowerSpec)

/-- 'laws.FnInvalidMap', WHERE WHAT IT READS IS OF BULK AT MOST 1048576: true; the input reads as it did. -/
def fnInvalidMapUptoRow : OpenClaim := { program := "ytgbcidkplanapaadoor", sum := "b265678dda10dd26cb4f4364496860fd6509ce700cf834fbad5e3fd082ab400b", func := "loop.example/lib-runeclasses/laws.FnInvalidMap", spec := "fnInvalidMap", named := ["unicode.CaseRanges"], apart := false, laid := [("unicode.CaseRanges", laid_unicode_CaseRanges)], narrowed := true }
def FnInvalidMapUptoSaid : Prop := fnInvalidMapUptoRow.holds Tryd.pinned (OpenSpec.upto fnInvalidMapSpec)

/-- 'laws.FnMapASCII', WHERE WHAT IT READS IS OF BULK AT MOST 1048576: true; the input reads as it did. -/
def fnMapASCIIUptoRow : OpenClaim := { program := "ytgbcidkplanapaadoor", sum := "b265678dda10dd26cb4f4364496860fd6509ce700cf834fbad5e3fd082ab400b", func := "loop.example/lib-runeclasses/laws.FnMapASCII", spec := "fnMapASCII", named := ["unicode.CaseRanges"], apart := false, laid := [("unicode.CaseRanges", laid_unicode_CaseRanges)], narrowed := true }
def FnMapASCIIUptoSaid : Prop := fnMapASCIIUptoRow.holds Tryd.pinned (OpenSpec.upto fnMapASCIISpec)

/-- 'laws.FnTitleGeorgian', WHERE WHAT IT READS IS OF BULK AT MOST 1048576: true; the input reads as it did. -/
def fnTitleGeorgianUptoRow : OpenClaim := { program := "ytgbcidkplanapaadoor", sum := "b265678dda10dd26cb4f4364496860fd6509ce700cf834fbad5e3fd082ab400b", func := "loop.example/lib-runeclasses/laws.FnTitleGeorgian", spec := "fnTitleGeorgian", named := ["unicode.CaseRanges"], apart := false, laid := [("unicode.CaseRanges", laid_unicode_CaseRanges)], narrowed := true }
def FnTitleGeorgianUptoSaid : Prop := fnTitleGeorgianUptoRow.holds Tryd.pinned (OpenSpec.upto fnTitleGeorgianSpec)

/-- 'laws.FnTitleMiddle', WHERE WHAT IT READS IS OF BULK AT MOST 1048576: true; the input reads as it did. -/
def fnTitleMiddleUptoRow : OpenClaim := { program := "ytgbcidkplanapaadoor", sum := "b265678dda10dd26cb4f4364496860fd6509ce700cf834fbad5e3fd082ab400b", func := "loop.example/lib-runeclasses/laws.FnTitleMiddle", spec := "fnTitleMiddle", named := ["unicode.CaseRanges"], apart := false, laid := [("unicode.CaseRanges", laid_unicode_CaseRanges)], narrowed := true }
def FnTitleMiddleUptoSaid : Prop := fnTitleMiddleUptoRow.holds Tryd.pinned (OpenSpec.upto fnTitleMiddleSpec)

end Rows
end Go.Proofs.YtgbcidkplanapaaDoor
