/-
  NARROWER THAN 'FOR EVERY INPUT', by the rows' own cells (each row's printed sentence says how): FnExactIsControl: laid · FnIsControl: laid · FnExactToLower: laid · FnExactToTitle: laid · FnExactToUpper: laid · FnToLower: laid.
  DERIVED. THE GIVEN ROWS OF THIS SEAT. 6 by the template 'for every input the law returns true; each argument reads behind the call as it read before'; 0 by the template 'total and deterministic' (their statements: YtlpdnaifnnfpjaaDoorTotals.lean).
  GIVEN WITH THE SEED: the statements are not yours to turn. If you find one false, say at which input.
  Laid BY PROGRAM, IN A SANDBOX (cutbox-rows.mjs): the forced cells as the released guide's own fill.sh prints them over the translation 515f376c704d4145… (all of the seat's roots in one cut). By AI agents, Wed Nov 11 2026. No macro, syntax, notation, axiom, sorry.
-/
import Derived.Test.YtlpdnaifnnfpjaaDoorChecked
import GoSem.PinnedTables
import GoSem.Claim
import GoSem.ClaimJoined
import GoSem.ClaimMapViews
import Derived.JoinedTies
import Derived.KernelRfl
namespace Go.Proofs.YtlpdnaifnnfpjaaDoor
/- THE CELL 'sum', in the pinned program and in every row, IS THE sha256 OF THE DUMP (.gsa) THAT YtlpdnaifnnfpjaaDoorProg.lean LOADS. Nothing in Lean hashes anything: it is a label: what it is worth is what the hold of that sum in a sandbox is worth. -/
noncomputable def Tryd.pinned : Pinned := { name := "ytlpdnaifnnfpjaadoor", sum := "515f376c704d4145e846d35221b13d4c260222bcff4ac3438b2a8d2586066372", checked := Tryd.checked }
namespace Rows
def none {H : Type} : Left H := { results := [], args := [] }

/- WHAT THE LISTED PACKAGE-LEVEL VARIABLES READ AS WHEN THE CALL BEGINS. Each datum BY PROGRAM (the guide's laid-datum.mjs) off the statement by which the dump's own 'gosem.cut.vars' lays the variable. In a bare row this is a premise. The card (YtlpdnaifnnfpjaaDoorCards.lean) ties it to the program's text. -/
def laid_unicode_properties {H : Type} : DataW H := .agg [.lit (.int .u8 1), .lit (.int .u8 1), .lit (.int .u8 1), .lit (.int .u8 1), .lit (.int .u8 1), .lit (.int .u8 1), .lit (.int .u8 1), .lit (.int .u8 1), .lit (.int .u8 1), .lit (.int .u8 1), .lit (.int .u8 1), .lit (.int .u8 1), .lit (.int .u8 1), .lit (.int .u8 1), .lit (.int .u8 1), .lit (.int .u8 1), .lit (.int .u8 1), .lit (.int .u8 1), .lit (.int .u8 1), .lit (.int .u8 1), .lit (.int .u8 1), .lit (.int .u8 1), .lit (.int .u8 1), .lit (.int .u8 1), .lit (.int .u8 1), .lit (.int .u8 1), .lit (.int .u8 1), .lit (.int .u8 1), .lit (.int .u8 1), .lit (.int .u8 1), .lit (.int .u8 1), .lit (.int .u8 1), .lit (.int .u8 144), .lit (.int .u8 130), .lit (.int .u8 130), .lit (.int .u8 130), .lit (.int .u8 136), .lit (.int .u8 130), .lit (.int .u8 130), .lit (.int .u8 130), .lit (.int .u8 130), .lit (.int .u8 130), .lit (.int .u8 130), .lit (.int .u8 136), .lit (.int .u8 130), .lit (.int .u8 130), .lit (.int .u8 130), .lit (.int .u8 130), .lit (.int .u8 132), .lit (.int .u8 132), .lit (.int .u8 132), .lit (.int .u8 132), .lit (.int .u8 132), .lit (.int .u8 132), .lit (.int .u8 132), .lit (.int .u8 132), .lit (.int .u8 132), .lit (.int .u8 132), .lit (.int .u8 130), .lit (.int .u8 130), .lit (.int .u8 136), .lit (.int .u8 136), .lit (.int .u8 136), .lit (.int .u8 130), .lit (.int .u8 130), .lit (.int .u8 160), .lit (.int .u8 160), .lit (.int .u8 160), .lit (.int .u8 160), .lit (.int .u8 160), .lit (.int .u8 160), .lit (.int .u8 160), .lit (.int .u8 160), .lit (.int .u8 160), .lit (.int .u8 160), .lit (.int .u8 160), .lit (.int .u8 160), .lit (.int .u8 160), .lit (.int .u8 160), .lit (.int .u8 160), .lit (.int .u8 160), .lit (.int .u8 160), .lit (.int .u8 160), .lit (.int .u8 160), .lit (.int .u8 160), .lit (.int .u8 160), .lit (.int .u8 160), .lit (.int .u8 160), .lit (.int .u8 160), .lit (.int .u8 160), .lit (.int .u8 160), .lit (.int .u8 130), .lit (.int .u8 130), .lit (.int .u8 130), .lit (.int .u8 136), .lit (.int .u8 130), .lit (.int .u8 136), .lit (.int .u8 192), .lit (.int .u8 192), .lit (.int .u8 192), .lit (.int .u8 192), .lit (.int .u8 192), .lit (.int .u8 192), .lit (.int .u8 192), .lit (.int .u8 192), .lit (.int .u8 192), .lit (.int .u8 192), .lit (.int .u8 192), .lit (.int .u8 192), .lit (.int .u8 192), .lit (.int .u8 192), .lit (.int .u8 192), .lit (.int .u8 192), .lit (.int .u8 192), .lit (.int .u8 192), .lit (.int .u8 192), .lit (.int .u8 192), .lit (.int .u8 192), .lit (.int .u8 192), .lit (.int .u8 192), .lit (.int .u8 192), .lit (.int .u8 192), .lit (.int .u8 192), .lit (.int .u8 130), .lit (.int .u8 136), .lit (.int .u8 130), .lit (.int .u8 136), .lit (.int .u8 1), .lit (.int .u8 1), .lit (.int .u8 1), .lit (.int .u8 1), .lit (.int .u8 1), .lit (.int .u8 1), .lit (.int .u8 1), .lit (.int .u8 1), .lit (.int .u8 1), .lit (.int .u8 1), .lit (.int .u8 1), .lit (.int .u8 1), .lit (.int .u8 1), .lit (.int .u8 1), .lit (.int .u8 1), .lit (.int .u8 1), .lit (.int .u8 1), .lit (.int .u8 1), .lit (.int .u8 1), .lit (.int .u8 1), .lit (.int .u8 1), .lit (.int .u8 1), .lit (.int .u8 1), .lit (.int .u8 1), .lit (.int .u8 1), .lit (.int .u8 1), .lit (.int .u8 1), .lit (.int .u8 1), .lit (.int .u8 1), .lit (.int .u8 1), .lit (.int .u8 1), .lit (.int .u8 1), .lit (.int .u8 1), .lit (.int .u8 16), .lit (.int .u8 130), .lit (.int .u8 136), .lit (.int .u8 136), .lit (.int .u8 136), .lit (.int .u8 136), .lit (.int .u8 136), .lit (.int .u8 130), .lit (.int .u8 136), .lit (.int .u8 136), .lit (.int .u8 224), .lit (.int .u8 130), .lit (.int .u8 136), .lit (.int .u8 0), .lit (.int .u8 136), .lit (.int .u8 136), .lit (.int .u8 136), .lit (.int .u8 136), .lit (.int .u8 132), .lit (.int .u8 132), .lit (.int .u8 136), .lit (.int .u8 192), .lit (.int .u8 130), .lit (.int .u8 130), .lit (.int .u8 136), .lit (.int .u8 132), .lit (.int .u8 224), .lit (.int .u8 130), .lit (.int .u8 132), .lit (.int .u8 132), .lit (.int .u8 132), .lit (.int .u8 130), .lit (.int .u8 160), .lit (.int .u8 160), .lit (.int .u8 160), .lit (.int .u8 160), .lit (.int .u8 160), .lit (.int .u8 160), .lit (.int .u8 160), .lit (.int .u8 160), .lit (.int .u8 160), .lit (.int .u8 160), .lit (.int .u8 160), .lit (.int .u8 160), .lit (.int .u8 160), .lit (.int .u8 160), .lit (.int .u8 160), .lit (.int .u8 160), .lit (.int .u8 160), .lit (.int .u8 160), .lit (.int .u8 160), .lit (.int .u8 160), .lit (.int .u8 160), .lit (.int .u8 160), .lit (.int .u8 160), .lit (.int .u8 136), .lit (.int .u8 160), .lit (.int .u8 160), .lit (.int .u8 160), .lit (.int .u8 160), .lit (.int .u8 160), .lit (.int .u8 160), .lit (.int .u8 160), .lit (.int .u8 192), .lit (.int .u8 192), .lit (.int .u8 192), .lit (.int .u8 192), .lit (.int .u8 192), .lit (.int .u8 192), .lit (.int .u8 192), .lit (.int .u8 192), .lit (.int .u8 192), .lit (.int .u8 192), .lit (.int .u8 192), .lit (.int .u8 192), .lit (.int .u8 192), .lit (.int .u8 192), .lit (.int .u8 192), .lit (.int .u8 192), .lit (.int .u8 192), .lit (.int .u8 192), .lit (.int .u8 192), .lit (.int .u8 192), .lit (.int .u8 192), .lit (.int .u8 192), .lit (.int .u8 192), .lit (.int .u8 192), .lit (.int .u8 136), .lit (.int .u8 192), .lit (.int .u8 192), .lit (.int .u8 192), .lit (.int .u8 192), .lit (.int .u8 192), .lit (.int .u8 192), .lit (.int .u8 192), .lit (.int .u8 192)]
/-- One of Go's own tables, pinned by name: the form's constant. -/
def laid_unicode_CaseRanges : DataW Unit := Go.Pinned.caseRanges

/-- 'laws.FnExactIsControl': WHATEVER THE INPUT: true; the input reads as it did. -/
def fnExactIsControlSpec : ChangeSpec := { name := "fnExactIsControl", fn := fun _ => fun
  | [d] => { results := [.lit (.bool true)], args := [d] }
  | _ => none }
def fnExactIsControlRow : OpenClaim := { program := "ytlpdnaifnnfpjaadoor", sum := "515f376c704d4145e846d35221b13d4c260222bcff4ac3438b2a8d2586066372", func := "loop.example/lib-runeclasses/laws.FnExactIsControl", spec := "fnExactIsControl", named := ["unicode.properties"], apart := false, laid := [("unicode.properties", laid_unicode_properties)] }
def FnExactIsControlSaid : Prop := fnExactIsControlRow.holds Tryd.pinned (OpenSpec.ofChange fnExactIsControlSpec)

/-- ITS FALSE NEIGHBOUR: 'it returns false'. Refute it at one input. -/
def fnExactIsControlWrong : ChangeSpec := { name := "fnExactIsControl", fn := fun _ => fun
  | [d] => { results := [.lit (.bool false)], args := [d] }
  | _ => none }
def FnExactIsControlWrongFalsely : Prop := fnExactIsControlRow.holds Tryd.pinned (OpenSpec.ofChange fnExactIsControlWrong)

/-- 'laws.FnIsControl': WHATEVER THE INPUT: true; the input reads as it did. -/
def fnIsControlSpec : ChangeSpec := { name := "fnIsControl", fn := fun _ => fun
  | [d] => { results := [.lit (.bool true)], args := [d] }
  | _ => none }
def fnIsControlRow : OpenClaim := { program := "ytlpdnaifnnfpjaadoor", sum := "515f376c704d4145e846d35221b13d4c260222bcff4ac3438b2a8d2586066372", func := "loop.example/lib-runeclasses/laws.FnIsControl", spec := "fnIsControl", named := ["unicode.properties"], apart := false, laid := [("unicode.properties", laid_unicode_properties)] }
def FnIsControlSaid : Prop := fnIsControlRow.holds Tryd.pinned (OpenSpec.ofChange fnIsControlSpec)

/-- ITS FALSE NEIGHBOUR: 'it returns false'. Refute it at one input. -/
def fnIsControlWrong : ChangeSpec := { name := "fnIsControl", fn := fun _ => fun
  | [d] => { results := [.lit (.bool false)], args := [d] }
  | _ => none }
def FnIsControlWrongFalsely : Prop := fnIsControlRow.holds Tryd.pinned (OpenSpec.ofChange fnIsControlWrong)

/-- 'laws.FnExactToLower': WHATEVER THE INPUT: true; the input reads as it did. -/
def fnExactToLowerSpec : ChangeSpec := { name := "fnExactToLower", fn := fun _ => fun
  | [d] => { results := [.lit (.bool true)], args := [d] }
  | _ => none }
def fnExactToLowerRow : OpenClaim := { program := "ytlpdnaifnnfpjaadoor", sum := "515f376c704d4145e846d35221b13d4c260222bcff4ac3438b2a8d2586066372", func := "loop.example/lib-runeclasses/laws.FnExactToLower", spec := "fnExactToLower", named := ["unicode.CaseRanges"], apart := false, laid := [("unicode.CaseRanges", laid_unicode_CaseRanges)] }
def FnExactToLowerSaid : Prop := fnExactToLowerRow.holds Tryd.pinned (OpenSpec.ofChange fnExactToLowerSpec)

/-- ITS FALSE NEIGHBOUR: 'it returns false'. Refute it at one input. -/
def fnExactToLowerWrong : ChangeSpec := { name := "fnExactToLower", fn := fun _ => fun
  | [d] => { results := [.lit (.bool false)], args := [d] }
  | _ => none }
def FnExactToLowerWrongFalsely : Prop := fnExactToLowerRow.holds Tryd.pinned (OpenSpec.ofChange fnExactToLowerWrong)

/-- 'laws.FnExactToTitle': WHATEVER THE INPUT: true; the input reads as it did. -/
def fnExactToTitleSpec : ChangeSpec := { name := "fnExactToTitle", fn := fun _ => fun
  | [d] => { results := [.lit (.bool true)], args := [d] }
  | _ => none }
def fnExactToTitleRow : OpenClaim := { program := "ytlpdnaifnnfpjaadoor", sum := "515f376c704d4145e846d35221b13d4c260222bcff4ac3438b2a8d2586066372", func := "loop.example/lib-runeclasses/laws.FnExactToTitle", spec := "fnExactToTitle", named := ["unicode.CaseRanges"], apart := false, laid := [("unicode.CaseRanges", laid_unicode_CaseRanges)] }
def FnExactToTitleSaid : Prop := fnExactToTitleRow.holds Tryd.pinned (OpenSpec.ofChange fnExactToTitleSpec)

/-- ITS FALSE NEIGHBOUR: 'it returns false'. Refute it at one input. -/
def fnExactToTitleWrong : ChangeSpec := { name := "fnExactToTitle", fn := fun _ => fun
  | [d] => { results := [.lit (.bool false)], args := [d] }
  | _ => none }
def FnExactToTitleWrongFalsely : Prop := fnExactToTitleRow.holds Tryd.pinned (OpenSpec.ofChange fnExactToTitleWrong)

/-- 'laws.FnExactToUpper': WHATEVER THE INPUT: true; the input reads as it did. -/
def fnExactToUpperSpec : ChangeSpec := { name := "fnExactToUpper", fn := fun _ => fun
  | [d] => { results := [.lit (.bool true)], args := [d] }
  | _ => none }
def fnExactToUpperRow : OpenClaim := { program := "ytlpdnaifnnfpjaadoor", sum := "515f376c704d4145e846d35221b13d4c260222bcff4ac3438b2a8d2586066372", func := "loop.example/lib-runeclasses/laws.FnExactToUpper", spec := "fnExactToUpper", named := ["unicode.CaseRanges"], apart := false, laid := [("unicode.CaseRanges", laid_unicode_CaseRanges)] }
def FnExactToUpperSaid : Prop := fnExactToUpperRow.holds Tryd.pinned (OpenSpec.ofChange fnExactToUpperSpec)

/-- ITS FALSE NEIGHBOUR: 'it returns false'. Refute it at one input. -/
def fnExactToUpperWrong : ChangeSpec := { name := "fnExactToUpper", fn := fun _ => fun
  | [d] => { results := [.lit (.bool false)], args := [d] }
  | _ => none }
def FnExactToUpperWrongFalsely : Prop := fnExactToUpperRow.holds Tryd.pinned (OpenSpec.ofChange fnExactToUpperWrong)

/-- 'laws.FnToLower': WHATEVER THE INPUT: true; the input reads as it did. -/
def fnToLowerSpec : ChangeSpec := { name := "fnToLower", fn := fun _ => fun
  | [d] => { results := [.lit (.bool true)], args := [d] }
  | _ => none }
def fnToLowerRow : OpenClaim := { program := "ytlpdnaifnnfpjaadoor", sum := "515f376c704d4145e846d35221b13d4c260222bcff4ac3438b2a8d2586066372", func := "loop.example/lib-runeclasses/laws.FnToLower", spec := "fnToLower", named := ["unicode.CaseRanges"], apart := false, laid := [("unicode.CaseRanges", laid_unicode_CaseRanges)] }
def FnToLowerSaid : Prop := fnToLowerRow.holds Tryd.pinned (OpenSpec.ofChange fnToLowerSpec)

/-- ITS FALSE NEIGHBOUR: 'it returns false'. Refute it at one input. -/
def fnToLowerWrong : ChangeSpec := { name := "fnToLower", fn := fun _ => fun
  | [d] => { results := [.lit (.bool false)], args := [d] }
  | _ => none }
def FnToLowerWrongFalsely : Prop := fnToLowerRow.holds Tryd.pinned (OpenSpec.ofChange fnToLowerWrong)

/- THE SECOND FORM. 'bulk': how many values and letters a reading holds, each counted each time it is reached (what is shared counts as often as it is met; a slice's spare places count too). A statement '..UptoSaid' is the law's where the arguments, and the package variables that the reading takes, are together of bulk at most 1048576: NARROWER than '..Said'. Prove '..Said' where nothing that the law and all that it calls make is longer than what came in: it says more and counts as full. Else prove '..UptoSaid'. A law counts once. -/
mutual
def uptoBulk {H : Type} : DataW H → Nat
  | .lit (.string bytes) => bytes.length + 1
  | .lit _ => 1
  | .nil => 1
  | .ptr d => uptoBulk d + 1
  | .slice elems spare => uptoBulkAll elems + uptoBulkAll spare + 1
  | .agg parts => uptoBulkAll parts + 1
  | .iface _ d => uptoBulk d + 1
  | .map entries => uptoBulkEntries entries + 1
  | .held _ => 1
def uptoBulkAll {H : Type} : List (DataW H) → Nat
  | [] => 0
  | d :: r => uptoBulk d + uptoBulkAll r
def uptoBulkEntries {H : Type} : List (Lit × DataW H) → Nat
  | [] => 0
  | x :: r => uptoBulkEntry x + uptoBulkEntries r
def uptoBulkEntry {H : Type} : Lit × DataW H → Nat
  | (.string bytes, d) => bytes.length + uptoBulk d + 1
  | (_, d) => uptoBulk d + 1
 end
def uptoSmall : (H : Type) → List (DataW H) → Bool := fun _ ds => decide (uptoBulkAll ds ≤ 1048576)
def OpenSpec.upto (s : _root_.Go.ChangeSpec) : _root_.Go.OpenSpec := { _root_.Go.OpenSpec.ofChange s with cond := some uptoSmall }

/-- 'laws.FnExactIsControl', WHERE WHAT IT READS IS OF BULK AT MOST 1048576: true; the input reads as it did. -/
def fnExactIsControlUptoRow : OpenClaim := { program := "ytlpdnaifnnfpjaadoor", sum := "515f376c704d4145e846d35221b13d4c260222bcff4ac3438b2a8d2586066372", func := "loop.example/lib-runeclasses/laws.FnExactIsControl", spec := "fnExactIsControl", named := ["unicode.properties"], apart := false, laid := [("unicode.properties", laid_unicode_properties)], narrowed := true }
def FnExactIsControlUptoSaid : Prop := fnExactIsControlUptoRow.holds Tryd.pinned (OpenSpec.upto fnExactIsControlSpec)

/-- 'laws.FnIsControl', WHERE WHAT IT READS IS OF BULK AT MOST 1048576: true; the input reads as it did. -/
def fnIsControlUptoRow : OpenClaim := { program := "ytlpdnaifnnfpjaadoor", sum := "515f376c704d4145e846d35221b13d4c260222bcff4ac3438b2a8d2586066372", func := "loop.example/lib-runeclasses/laws.FnIsControl", spec := "fnIsControl", named := ["unicode.properties"], apart := false, laid := [("unicode.properties", laid_unicode_properties)], narrowed := true }
def FnIsControlUptoSaid : Prop := fnIsControlUptoRow.holds Tryd.pinned (OpenSpec.upto fnIsControlSpec)

/-- 'laws.FnExactToLower', WHERE WHAT IT READS IS OF BULK AT MOST 1048576: true; the input reads as it did. -/
def fnExactToLowerUptoRow : OpenClaim := { program := "ytlpdnaifnnfpjaadoor", sum := "515f376c704d4145e846d35221b13d4c260222bcff4ac3438b2a8d2586066372", func := "loop.example/lib-runeclasses/laws.FnExactToLower", spec := "fnExactToLower", named := ["unicode.CaseRanges"], apart := false, laid := [("unicode.CaseRanges", laid_unicode_CaseRanges)], narrowed := true }
def FnExactToLowerUptoSaid : Prop := fnExactToLowerUptoRow.holds Tryd.pinned (OpenSpec.upto fnExactToLowerSpec)

/-- 'laws.FnExactToTitle', WHERE WHAT IT READS IS OF BULK AT MOST 1048576: true; the input reads as it did. -/
def fnExactToTitleUptoRow : OpenClaim := { program := "ytlpdnaifnnfpjaadoor", sum := "515f376c704d4145e846d35221b13d4c260222bcff4ac3438b2a8d2586066372", func := "loop.example/lib-runeclasses/laws.FnExactToTitle", spec := "fnExactToTitle", named := ["unicode.CaseRanges"], apart := false, laid := [("unicode.CaseRanges", laid_unicode_CaseRanges)], narrowed := true }
def FnExactToTitleUptoSaid : Prop := fnExactToTitleUptoRow.holds Tryd.pinned (OpenSpec.upto fnExactToTitleSpec)

/-- 'laws.FnExactToUpper', WHERE WHAT IT READS IS OF BULK AT MOST 1048576: true; the input reads as it did. -/
def fnExactToUpperUptoRow : OpenClaim := { program := "ytlpdnaifnnfpjaadoor", sum := "515f376c704d4145e846d35221b13d4c260222bcff4ac3438b2a8d2586066372", func := "loop.example/lib-runeclasses/laws.FnExactToUpper", spec := "fnExactToUpper", named := ["unicode.CaseRanges"], apart := false, laid := [("unicode.CaseRanges", laid_unicode_CaseRanges)], narrowed := true }
def FnExactToUpperUptoSaid : Prop := fnExactToUpperUptoRow.holds Tryd.pinned (OpenSpec.upto fnExactToUpperSpec)

/-- 'laws.FnToLower', WHERE WHAT IT READS IS OF BULK AT MOST 1048576: true; the input reads as it did. -/
def fnToLowerUptoRow : OpenClaim := { program := "ytlpdnaifnnfpjaadoor", sum := "515f376c704d4145e846d35221b13d4c260222bcff4ac3438b2a8d2586066372", func := "loop.example/lib-runeclasses/laws.FnToLower", spec := "fnToLower", named := ["unicode.CaseRanges"], apart := false, laid := [("unicode.CaseRanges", laid_unicode_CaseRanges)], narrowed := true }
def FnToLowerUptoSaid : Prop := fnToLowerUptoRow.holds Tryd.pinned (OpenSpec.upto fnToLowerSpec)

end Rows
end Go.Proofs.YtlpdnaifnnfpjaaDoor
