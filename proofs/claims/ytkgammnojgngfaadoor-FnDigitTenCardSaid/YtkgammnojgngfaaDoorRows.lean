/-
  NARROWER THAN 'FOR EVERY INPUT', by the rows' own cells (each row's printed sentence says how): FnDigitTen: laid · FnExactIsDigit: laid · FnExactIsLetter: laid · FnIsDigit: laid · FnIsLetter: laid · FnExactIsUpper: laid · FnIsUpper: laid · FnExactIsSpace: laid · FnIsSpace: laid · FnUpperLetter: laid · FnUpperUpper: laid.
  DERIVED. THE GIVEN ROWS OF THIS SEAT. 11 by the template 'for every input the law returns true; each argument reads behind the call as it read before'; 0 by the template 'total and deterministic' (their statements: YtkgammnojgngfaaDoorTotals.lean).
  GIVEN WITH THE SEED: the statements are not yours to turn. If you find one false, say at which input.
  Laid BY PROGRAM, IN A SANDBOX (cutbox-rows.mjs): the forced cells as the released guide's own fill.sh prints them over the translation a38b28429ce1e0cc… (all of the seat's roots in one cut). By AI agents, Wed Nov 11 2026. No macro, syntax, notation, axiom, sorry.
-/
import Derived.Test.YtkgammnojgngfaaDoorChecked
import GoSem.PinnedTables
import GoSem.Claim
import GoSem.ClaimJoined
import GoSem.ClaimMapViews
import Derived.JoinedTies
import Derived.KernelRfl
namespace Go.Proofs.YtkgammnojgngfaaDoor
/- THE CELL 'sum', in the pinned program and in every row, IS THE sha256 OF THE DUMP (.gsa) THAT YtkgammnojgngfaaDoorProg.lean LOADS. Nothing in Lean hashes anything: it is a label: what it is worth is what the hold of that sum in a sandbox is worth. -/
noncomputable def Tryd.pinned : Pinned := { name := "ytkgammnojgngfaadoor", sum := "a38b28429ce1e0cc75d6c54b558f3d58a6060719c2dc19e1cb67fc89475fcbf7", checked := Tryd.checked }
namespace Rows
def none {H : Type} : Left H := { results := [], args := [] }

/- WHAT THE LISTED PACKAGE-LEVEL VARIABLES READ AS WHEN THE CALL BEGINS. Each datum BY PROGRAM (the guide's laid-datum.mjs) off the statement by which the dump's own 'gosem.cut.vars' lays the variable. In a bare row this is a premise. The card (YtkgammnojgngfaaDoorCards.lean) ties it to the program's text. -/
/-- One of Go's own tables, pinned by name: the form's constant. -/
def laid_unicode_Digit : DataW Unit := Go.Pinned.digit
def laid_unicode_properties {H : Type} : DataW H := .agg [.lit (.int .u8 1), .lit (.int .u8 1), .lit (.int .u8 1), .lit (.int .u8 1), .lit (.int .u8 1), .lit (.int .u8 1), .lit (.int .u8 1), .lit (.int .u8 1), .lit (.int .u8 1), .lit (.int .u8 1), .lit (.int .u8 1), .lit (.int .u8 1), .lit (.int .u8 1), .lit (.int .u8 1), .lit (.int .u8 1), .lit (.int .u8 1), .lit (.int .u8 1), .lit (.int .u8 1), .lit (.int .u8 1), .lit (.int .u8 1), .lit (.int .u8 1), .lit (.int .u8 1), .lit (.int .u8 1), .lit (.int .u8 1), .lit (.int .u8 1), .lit (.int .u8 1), .lit (.int .u8 1), .lit (.int .u8 1), .lit (.int .u8 1), .lit (.int .u8 1), .lit (.int .u8 1), .lit (.int .u8 1), .lit (.int .u8 144), .lit (.int .u8 130), .lit (.int .u8 130), .lit (.int .u8 130), .lit (.int .u8 136), .lit (.int .u8 130), .lit (.int .u8 130), .lit (.int .u8 130), .lit (.int .u8 130), .lit (.int .u8 130), .lit (.int .u8 130), .lit (.int .u8 136), .lit (.int .u8 130), .lit (.int .u8 130), .lit (.int .u8 130), .lit (.int .u8 130), .lit (.int .u8 132), .lit (.int .u8 132), .lit (.int .u8 132), .lit (.int .u8 132), .lit (.int .u8 132), .lit (.int .u8 132), .lit (.int .u8 132), .lit (.int .u8 132), .lit (.int .u8 132), .lit (.int .u8 132), .lit (.int .u8 130), .lit (.int .u8 130), .lit (.int .u8 136), .lit (.int .u8 136), .lit (.int .u8 136), .lit (.int .u8 130), .lit (.int .u8 130), .lit (.int .u8 160), .lit (.int .u8 160), .lit (.int .u8 160), .lit (.int .u8 160), .lit (.int .u8 160), .lit (.int .u8 160), .lit (.int .u8 160), .lit (.int .u8 160), .lit (.int .u8 160), .lit (.int .u8 160), .lit (.int .u8 160), .lit (.int .u8 160), .lit (.int .u8 160), .lit (.int .u8 160), .lit (.int .u8 160), .lit (.int .u8 160), .lit (.int .u8 160), .lit (.int .u8 160), .lit (.int .u8 160), .lit (.int .u8 160), .lit (.int .u8 160), .lit (.int .u8 160), .lit (.int .u8 160), .lit (.int .u8 160), .lit (.int .u8 160), .lit (.int .u8 160), .lit (.int .u8 130), .lit (.int .u8 130), .lit (.int .u8 130), .lit (.int .u8 136), .lit (.int .u8 130), .lit (.int .u8 136), .lit (.int .u8 192), .lit (.int .u8 192), .lit (.int .u8 192), .lit (.int .u8 192), .lit (.int .u8 192), .lit (.int .u8 192), .lit (.int .u8 192), .lit (.int .u8 192), .lit (.int .u8 192), .lit (.int .u8 192), .lit (.int .u8 192), .lit (.int .u8 192), .lit (.int .u8 192), .lit (.int .u8 192), .lit (.int .u8 192), .lit (.int .u8 192), .lit (.int .u8 192), .lit (.int .u8 192), .lit (.int .u8 192), .lit (.int .u8 192), .lit (.int .u8 192), .lit (.int .u8 192), .lit (.int .u8 192), .lit (.int .u8 192), .lit (.int .u8 192), .lit (.int .u8 192), .lit (.int .u8 130), .lit (.int .u8 136), .lit (.int .u8 130), .lit (.int .u8 136), .lit (.int .u8 1), .lit (.int .u8 1), .lit (.int .u8 1), .lit (.int .u8 1), .lit (.int .u8 1), .lit (.int .u8 1), .lit (.int .u8 1), .lit (.int .u8 1), .lit (.int .u8 1), .lit (.int .u8 1), .lit (.int .u8 1), .lit (.int .u8 1), .lit (.int .u8 1), .lit (.int .u8 1), .lit (.int .u8 1), .lit (.int .u8 1), .lit (.int .u8 1), .lit (.int .u8 1), .lit (.int .u8 1), .lit (.int .u8 1), .lit (.int .u8 1), .lit (.int .u8 1), .lit (.int .u8 1), .lit (.int .u8 1), .lit (.int .u8 1), .lit (.int .u8 1), .lit (.int .u8 1), .lit (.int .u8 1), .lit (.int .u8 1), .lit (.int .u8 1), .lit (.int .u8 1), .lit (.int .u8 1), .lit (.int .u8 1), .lit (.int .u8 16), .lit (.int .u8 130), .lit (.int .u8 136), .lit (.int .u8 136), .lit (.int .u8 136), .lit (.int .u8 136), .lit (.int .u8 136), .lit (.int .u8 130), .lit (.int .u8 136), .lit (.int .u8 136), .lit (.int .u8 224), .lit (.int .u8 130), .lit (.int .u8 136), .lit (.int .u8 0), .lit (.int .u8 136), .lit (.int .u8 136), .lit (.int .u8 136), .lit (.int .u8 136), .lit (.int .u8 132), .lit (.int .u8 132), .lit (.int .u8 136), .lit (.int .u8 192), .lit (.int .u8 130), .lit (.int .u8 130), .lit (.int .u8 136), .lit (.int .u8 132), .lit (.int .u8 224), .lit (.int .u8 130), .lit (.int .u8 132), .lit (.int .u8 132), .lit (.int .u8 132), .lit (.int .u8 130), .lit (.int .u8 160), .lit (.int .u8 160), .lit (.int .u8 160), .lit (.int .u8 160), .lit (.int .u8 160), .lit (.int .u8 160), .lit (.int .u8 160), .lit (.int .u8 160), .lit (.int .u8 160), .lit (.int .u8 160), .lit (.int .u8 160), .lit (.int .u8 160), .lit (.int .u8 160), .lit (.int .u8 160), .lit (.int .u8 160), .lit (.int .u8 160), .lit (.int .u8 160), .lit (.int .u8 160), .lit (.int .u8 160), .lit (.int .u8 160), .lit (.int .u8 160), .lit (.int .u8 160), .lit (.int .u8 160), .lit (.int .u8 136), .lit (.int .u8 160), .lit (.int .u8 160), .lit (.int .u8 160), .lit (.int .u8 160), .lit (.int .u8 160), .lit (.int .u8 160), .lit (.int .u8 160), .lit (.int .u8 192), .lit (.int .u8 192), .lit (.int .u8 192), .lit (.int .u8 192), .lit (.int .u8 192), .lit (.int .u8 192), .lit (.int .u8 192), .lit (.int .u8 192), .lit (.int .u8 192), .lit (.int .u8 192), .lit (.int .u8 192), .lit (.int .u8 192), .lit (.int .u8 192), .lit (.int .u8 192), .lit (.int .u8 192), .lit (.int .u8 192), .lit (.int .u8 192), .lit (.int .u8 192), .lit (.int .u8 192), .lit (.int .u8 192), .lit (.int .u8 192), .lit (.int .u8 192), .lit (.int .u8 192), .lit (.int .u8 192), .lit (.int .u8 136), .lit (.int .u8 192), .lit (.int .u8 192), .lit (.int .u8 192), .lit (.int .u8 192), .lit (.int .u8 192), .lit (.int .u8 192), .lit (.int .u8 192), .lit (.int .u8 192)]
/-- One of Go's own tables, pinned by name: the form's constant. -/
def laid_unicode_Letter : DataW Unit := Go.Pinned.letter
/-- One of Go's own tables, pinned by name: the form's constant. -/
def laid_unicode_Upper : DataW Unit := Go.Pinned.upper
def laid_unicode_White_Space {H : Type} : DataW H := .ptr (.agg [.slice [.agg [.lit (.int .u16 9), .lit (.int .u16 13), .lit (.int .u16 1)], .agg [.lit (.int .u16 32), .lit (.int .u16 133), .lit (.int .u16 101)], .agg [.lit (.int .u16 160), .lit (.int .u16 5760), .lit (.int .u16 5600)], .agg [.lit (.int .u16 8192), .lit (.int .u16 8202), .lit (.int .u16 1)], .agg [.lit (.int .u16 8232), .lit (.int .u16 8233), .lit (.int .u16 1)], .agg [.lit (.int .u16 8239), .lit (.int .u16 8287), .lit (.int .u16 48)], .agg [.lit (.int .u16 12288), .lit (.int .u16 12288), .lit (.int .u16 1)]] [], .nil, .lit (.int .i64 2)])
/-- One of Go's own tables, pinned by name: the form's constant. -/
def laid_unicode_CaseRanges : DataW Unit := Go.Pinned.caseRanges

/-- 'laws.FnDigitTen': WHATEVER THE INPUT: true; the input reads as it did. -/
def fnDigitTenSpec : ChangeSpec := { name := "fnDigitTen", fn := fun _ => fun
  | [d] => { results := [.lit (.bool true)], args := [d] }
  | _ => none }
def fnDigitTenRow : OpenClaim := { program := "ytkgammnojgngfaadoor", sum := "a38b28429ce1e0cc75d6c54b558f3d58a6060719c2dc19e1cb67fc89475fcbf7", func := "loop.example/lib-runeclasses/laws.FnDigitTen", spec := "fnDigitTen", named := ["unicode.Digit"], apart := false, laid := [("unicode.Digit", laid_unicode_Digit)] }
def FnDigitTenSaid : Prop := fnDigitTenRow.holds Tryd.pinned (OpenSpec.ofChange fnDigitTenSpec)

/-- ITS FALSE NEIGHBOUR: 'it returns false'. Refute it at one input. -/
def fnDigitTenWrong : ChangeSpec := { name := "fnDigitTen", fn := fun _ => fun
  | [d] => { results := [.lit (.bool false)], args := [d] }
  | _ => none }
def FnDigitTenWrongFalsely : Prop := fnDigitTenRow.holds Tryd.pinned (OpenSpec.ofChange fnDigitTenWrong)

/-- 'laws.FnExactIsDigit': WHATEVER THE INPUT: true; the input reads as it did. -/
def fnExactIsDigitSpec : ChangeSpec := { name := "fnExactIsDigit", fn := fun _ => fun
  | [d] => { results := [.lit (.bool true)], args := [d] }
  | _ => none }
def fnExactIsDigitRow : OpenClaim := { program := "ytkgammnojgngfaadoor", sum := "a38b28429ce1e0cc75d6c54b558f3d58a6060719c2dc19e1cb67fc89475fcbf7", func := "loop.example/lib-runeclasses/laws.FnExactIsDigit", spec := "fnExactIsDigit", named := ["unicode.Digit"], apart := false, laid := [("unicode.Digit", laid_unicode_Digit)] }
def FnExactIsDigitSaid : Prop := fnExactIsDigitRow.holds Tryd.pinned (OpenSpec.ofChange fnExactIsDigitSpec)

/-- ITS FALSE NEIGHBOUR: 'it returns false'. Refute it at one input. -/
def fnExactIsDigitWrong : ChangeSpec := { name := "fnExactIsDigit", fn := fun _ => fun
  | [d] => { results := [.lit (.bool false)], args := [d] }
  | _ => none }
def FnExactIsDigitWrongFalsely : Prop := fnExactIsDigitRow.holds Tryd.pinned (OpenSpec.ofChange fnExactIsDigitWrong)

/-- 'laws.FnExactIsLetter': WHATEVER THE INPUT: true; the input reads as it did. -/
def fnExactIsLetterSpec : ChangeSpec := { name := "fnExactIsLetter", fn := fun _ => fun
  | [d] => { results := [.lit (.bool true)], args := [d] }
  | _ => none }
def fnExactIsLetterRow : OpenClaim := { program := "ytkgammnojgngfaadoor", sum := "a38b28429ce1e0cc75d6c54b558f3d58a6060719c2dc19e1cb67fc89475fcbf7", func := "loop.example/lib-runeclasses/laws.FnExactIsLetter", spec := "fnExactIsLetter", named := ["unicode.properties", "unicode.Letter"], apart := false, laid := [("unicode.properties", laid_unicode_properties), ("unicode.Letter", laid_unicode_Letter)] }
def FnExactIsLetterSaid : Prop := fnExactIsLetterRow.holds Tryd.pinned (OpenSpec.ofChange fnExactIsLetterSpec)

/-- ITS FALSE NEIGHBOUR: 'it returns false'. Refute it at one input. -/
def fnExactIsLetterWrong : ChangeSpec := { name := "fnExactIsLetter", fn := fun _ => fun
  | [d] => { results := [.lit (.bool false)], args := [d] }
  | _ => none }
def FnExactIsLetterWrongFalsely : Prop := fnExactIsLetterRow.holds Tryd.pinned (OpenSpec.ofChange fnExactIsLetterWrong)

/-- 'laws.FnIsDigit': WHATEVER THE INPUT: true; the input reads as it did. -/
def fnIsDigitSpec : ChangeSpec := { name := "fnIsDigit", fn := fun _ => fun
  | [d] => { results := [.lit (.bool true)], args := [d] }
  | _ => none }
def fnIsDigitRow : OpenClaim := { program := "ytkgammnojgngfaadoor", sum := "a38b28429ce1e0cc75d6c54b558f3d58a6060719c2dc19e1cb67fc89475fcbf7", func := "loop.example/lib-runeclasses/laws.FnIsDigit", spec := "fnIsDigit", named := ["unicode.Digit"], apart := false, laid := [("unicode.Digit", laid_unicode_Digit)] }
def FnIsDigitSaid : Prop := fnIsDigitRow.holds Tryd.pinned (OpenSpec.ofChange fnIsDigitSpec)

/-- ITS FALSE NEIGHBOUR: 'it returns false'. Refute it at one input. -/
def fnIsDigitWrong : ChangeSpec := { name := "fnIsDigit", fn := fun _ => fun
  | [d] => { results := [.lit (.bool false)], args := [d] }
  | _ => none }
def FnIsDigitWrongFalsely : Prop := fnIsDigitRow.holds Tryd.pinned (OpenSpec.ofChange fnIsDigitWrong)

/-- 'laws.FnIsLetter': WHATEVER THE INPUT: true; the input reads as it did. -/
def fnIsLetterSpec : ChangeSpec := { name := "fnIsLetter", fn := fun _ => fun
  | [d] => { results := [.lit (.bool true)], args := [d] }
  | _ => none }
def fnIsLetterRow : OpenClaim := { program := "ytkgammnojgngfaadoor", sum := "a38b28429ce1e0cc75d6c54b558f3d58a6060719c2dc19e1cb67fc89475fcbf7", func := "loop.example/lib-runeclasses/laws.FnIsLetter", spec := "fnIsLetter", named := ["unicode.properties", "unicode.Letter"], apart := false, laid := [("unicode.properties", laid_unicode_properties), ("unicode.Letter", laid_unicode_Letter)] }
def FnIsLetterSaid : Prop := fnIsLetterRow.holds Tryd.pinned (OpenSpec.ofChange fnIsLetterSpec)

/-- ITS FALSE NEIGHBOUR: 'it returns false'. Refute it at one input. -/
def fnIsLetterWrong : ChangeSpec := { name := "fnIsLetter", fn := fun _ => fun
  | [d] => { results := [.lit (.bool false)], args := [d] }
  | _ => none }
def FnIsLetterWrongFalsely : Prop := fnIsLetterRow.holds Tryd.pinned (OpenSpec.ofChange fnIsLetterWrong)

/-- 'laws.FnExactIsUpper': WHATEVER THE INPUT: true; the input reads as it did. -/
def fnExactIsUpperSpec : ChangeSpec := { name := "fnExactIsUpper", fn := fun _ => fun
  | [d] => { results := [.lit (.bool true)], args := [d] }
  | _ => none }
def fnExactIsUpperRow : OpenClaim := { program := "ytkgammnojgngfaadoor", sum := "a38b28429ce1e0cc75d6c54b558f3d58a6060719c2dc19e1cb67fc89475fcbf7", func := "loop.example/lib-runeclasses/laws.FnExactIsUpper", spec := "fnExactIsUpper", named := ["unicode.properties", "unicode.Upper"], apart := false, laid := [("unicode.properties", laid_unicode_properties), ("unicode.Upper", laid_unicode_Upper)] }
def FnExactIsUpperSaid : Prop := fnExactIsUpperRow.holds Tryd.pinned (OpenSpec.ofChange fnExactIsUpperSpec)

/-- ITS FALSE NEIGHBOUR: 'it returns false'. Refute it at one input. -/
def fnExactIsUpperWrong : ChangeSpec := { name := "fnExactIsUpper", fn := fun _ => fun
  | [d] => { results := [.lit (.bool false)], args := [d] }
  | _ => none }
def FnExactIsUpperWrongFalsely : Prop := fnExactIsUpperRow.holds Tryd.pinned (OpenSpec.ofChange fnExactIsUpperWrong)

/-- 'laws.FnIsUpper': WHATEVER THE INPUT: true; the input reads as it did. -/
def fnIsUpperSpec : ChangeSpec := { name := "fnIsUpper", fn := fun _ => fun
  | [d] => { results := [.lit (.bool true)], args := [d] }
  | _ => none }
def fnIsUpperRow : OpenClaim := { program := "ytkgammnojgngfaadoor", sum := "a38b28429ce1e0cc75d6c54b558f3d58a6060719c2dc19e1cb67fc89475fcbf7", func := "loop.example/lib-runeclasses/laws.FnIsUpper", spec := "fnIsUpper", named := ["unicode.properties", "unicode.Upper"], apart := false, laid := [("unicode.properties", laid_unicode_properties), ("unicode.Upper", laid_unicode_Upper)] }
def FnIsUpperSaid : Prop := fnIsUpperRow.holds Tryd.pinned (OpenSpec.ofChange fnIsUpperSpec)

/-- ITS FALSE NEIGHBOUR: 'it returns false'. Refute it at one input. -/
def fnIsUpperWrong : ChangeSpec := { name := "fnIsUpper", fn := fun _ => fun
  | [d] => { results := [.lit (.bool false)], args := [d] }
  | _ => none }
def FnIsUpperWrongFalsely : Prop := fnIsUpperRow.holds Tryd.pinned (OpenSpec.ofChange fnIsUpperWrong)

/-- 'laws.FnExactIsSpace': WHATEVER THE INPUT: true; the input reads as it did. -/
def fnExactIsSpaceSpec : ChangeSpec := { name := "fnExactIsSpace", fn := fun _ => fun
  | [d] => { results := [.lit (.bool true)], args := [d] }
  | _ => none }
def fnExactIsSpaceRow : OpenClaim := { program := "ytkgammnojgngfaadoor", sum := "a38b28429ce1e0cc75d6c54b558f3d58a6060719c2dc19e1cb67fc89475fcbf7", func := "loop.example/lib-runeclasses/laws.FnExactIsSpace", spec := "fnExactIsSpace", named := ["unicode.White_Space"], apart := false, laid := [("unicode.White_Space", laid_unicode_White_Space)] }
def FnExactIsSpaceSaid : Prop := fnExactIsSpaceRow.holds Tryd.pinned (OpenSpec.ofChange fnExactIsSpaceSpec)

/-- ITS FALSE NEIGHBOUR: 'it returns false'. Refute it at one input. -/
def fnExactIsSpaceWrong : ChangeSpec := { name := "fnExactIsSpace", fn := fun _ => fun
  | [d] => { results := [.lit (.bool false)], args := [d] }
  | _ => none }
def FnExactIsSpaceWrongFalsely : Prop := fnExactIsSpaceRow.holds Tryd.pinned (OpenSpec.ofChange fnExactIsSpaceWrong)

/-- 'laws.FnIsSpace': WHATEVER THE INPUT: true; the input reads as it did. -/
def fnIsSpaceSpec : ChangeSpec := { name := "fnIsSpace", fn := fun _ => fun
  | [d] => { results := [.lit (.bool true)], args := [d] }
  | _ => none }
def fnIsSpaceRow : OpenClaim := { program := "ytkgammnojgngfaadoor", sum := "a38b28429ce1e0cc75d6c54b558f3d58a6060719c2dc19e1cb67fc89475fcbf7", func := "loop.example/lib-runeclasses/laws.FnIsSpace", spec := "fnIsSpace", named := ["unicode.White_Space"], apart := false, laid := [("unicode.White_Space", laid_unicode_White_Space)] }
def FnIsSpaceSaid : Prop := fnIsSpaceRow.holds Tryd.pinned (OpenSpec.ofChange fnIsSpaceSpec)

/-- ITS FALSE NEIGHBOUR: 'it returns false'. Refute it at one input. -/
def fnIsSpaceWrong : ChangeSpec := { name := "fnIsSpace", fn := fun _ => fun
  | [d] => { results := [.lit (.bool false)], args := [d] }
  | _ => none }
def FnIsSpaceWrongFalsely : Prop := fnIsSpaceRow.holds Tryd.pinned (OpenSpec.ofChange fnIsSpaceWrong)

/-- 'laws.FnUpperLetter': WHATEVER THE INPUT: true; the input reads as it did. -/
def fnUpperLetterSpec : ChangeSpec := { name := "fnUpperLetter", fn := fun _ => fun
  | [d] => { results := [.lit (.bool true)], args := [d] }
  | _ => none }
def fnUpperLetterRow : OpenClaim := { program := "ytkgammnojgngfaadoor", sum := "a38b28429ce1e0cc75d6c54b558f3d58a6060719c2dc19e1cb67fc89475fcbf7", func := "loop.example/lib-runeclasses/laws.FnUpperLetter", spec := "fnUpperLetter", named := ["unicode.properties", "unicode.Upper", "unicode.Letter"], apart := false, laid := [("unicode.properties", laid_unicode_properties), ("unicode.Letter", laid_unicode_Letter), ("unicode.Upper", laid_unicode_Upper)] }
def FnUpperLetterSaid : Prop := fnUpperLetterRow.holds Tryd.pinned (OpenSpec.ofChange fnUpperLetterSpec)

/-- ITS FALSE NEIGHBOUR: 'it returns false'. Refute it at one input. -/
def fnUpperLetterWrong : ChangeSpec := { name := "fnUpperLetter", fn := fun _ => fun
  | [d] => { results := [.lit (.bool false)], args := [d] }
  | _ => none }
def FnUpperLetterWrongFalsely : Prop := fnUpperLetterRow.holds Tryd.pinned (OpenSpec.ofChange fnUpperLetterWrong)

/-- 'laws.FnUpperUpper': WHATEVER THE INPUT: true; the input reads as it did. -/
def fnUpperUpperSpec : ChangeSpec := { name := "fnUpperUpper", fn := fun _ => fun
  | [d] => { results := [.lit (.bool true)], args := [d] }
  | _ => none }
def fnUpperUpperRow : OpenClaim := { program := "ytkgammnojgngfaadoor", sum := "a38b28429ce1e0cc75d6c54b558f3d58a6060719c2dc19e1cb67fc89475fcbf7", func := "loop.example/lib-runeclasses/laws.FnUpperUpper", spec := "fnUpperUpper", named := ["unicode.properties", "unicode.Upper", "unicode.CaseRanges"], apart := false, laid := [("unicode.properties", laid_unicode_properties), ("unicode.CaseRanges", laid_unicode_CaseRanges), ("unicode.Upper", laid_unicode_Upper)] }
def FnUpperUpperSaid : Prop := fnUpperUpperRow.holds Tryd.pinned (OpenSpec.ofChange fnUpperUpperSpec)

/-- ITS FALSE NEIGHBOUR: 'it returns false'. Refute it at one input. -/
def fnUpperUpperWrong : ChangeSpec := { name := "fnUpperUpper", fn := fun _ => fun
  | [d] => { results := [.lit (.bool false)], args := [d] }
  | _ => none }
def FnUpperUpperWrongFalsely : Prop := fnUpperUpperRow.holds Tryd.pinned (OpenSpec.ofChange fnUpperUpperWrong)

/- THE SECOND FORM. 'bulk': how many values and letters a reading holds, each counted each time it is reached (what is shared counts as often as it is met; a slice's spare places count too). A statement '..UptoSaid' is the law's where the arguments, and the package variables that the reading takes, are together of bulk at most 1048576: NARROWER than '..Said'. Prove '..Said' where nothing that the law and all that it calls make is longer than what came in: it says more and counts as full. Else prove '..UptoSaid'. A law counts once. -/
mutual
def uptoBulk {H : Type} : DataW H → Nat
  | .lit (.string bytes) => bytes.length + 1
  | .lit _ => 1
  | .nil => 1
  | .ptr d => uptoBulk d + 1
  | .slice elems spare => uptoBulkAll elems + uptoBulkAll spare + 1
  | .agg parts => uptoBulkAll parts + 1
  | .iface _ d => uptoBulk d + 1
  | .map entries => uptoBulkEntries entries + 1
  | .held _ => 1
def uptoBulkAll {H : Type} : List (DataW H) → Nat
  | [] => 0
  | d :: r => uptoBulk d + uptoBulkAll r
def uptoBulkEntries {H : Type} : List (Lit × DataW H) → Nat
  | [] => 0
  | x :: r => uptoBulkEntry x + uptoBulkEntries r
def uptoBulkEntry {H : Type} : Lit × DataW H → Nat
  | (.string bytes, d) => bytes.length + uptoBulk d + 1
  | (_, d) => uptoBulk d + 1
 end
def uptoSmall : (H : Type) → List (DataW H) → Bool := fun _ ds => decide (uptoBulkAll ds ≤ 1048576)
def OpenSpec.upto (s : _root_.Go.ChangeSpec) : _root_.Go.OpenSpec := { _root_.Go.OpenSpec.ofChange s with cond := some uptoSmall }

/-- 'laws.FnDigitTen', WHERE WHAT IT READS IS OF BULK AT MOST 1048576: true; the input reads as it did. -/
def fnDigitTenUptoRow : OpenClaim := { program := "ytkgammnojgngfaadoor", sum := "a38b28429ce1e0cc75d6c54b558f3d58a6060719c2dc19e1cb67fc89475fcbf7", func := "loop.example/lib-runeclasses/laws.FnDigitTen", spec := "fnDigitTen", named := ["unicode.Digit"], apart := false, laid := [("unicode.Digit", laid_unicode_Digit)], narrowed := true }
def FnDigitTenUptoSaid : Prop := fnDigitTenUptoRow.holds Tryd.pinned (OpenSpec.upto fnDigitTenSpec)

/-- 'laws.FnExactIsDigit', WHERE WHAT IT READS IS OF BULK AT MOST 1048576: true; the input reads as it did. -/
def fnExactIsDigitUptoRow : OpenClaim := { program := "ytkgammnojgngfaadoor", sum := "a38b28429ce1e0cc75d6c54b558f3d58a6060719c2dc19e1cb67fc89475fcbf7", func := "loop.example/lib-runeclasses/laws.FnExactIsDigit", spec := "fnExactIsDigit", named := ["unicode.Digit"], apart := false, laid := [("unicode.Digit", laid_unicode_Digit)], narrowed := true }
def FnExactIsDigitUptoSaid : Prop := fnExactIsDigitUptoRow.holds Tryd.pinned (OpenSpec.upto fnExactIsDigitSpec)

/-- 'laws.FnExactIsLetter', WHERE WHAT IT READS IS OF BULK AT MOST 1048576: true; the input reads as it did. -/
def fnExactIsLetterUptoRow : OpenClaim := { program := "ytkgammnojgngfaadoor", sum := "a38b28429ce1e0cc75d6c54b558f3d58a6060719c2dc19e1cb67fc89475fcbf7", func := "loop.example/lib-runeclasses/laws.FnExactIsLetter", spec := "fnExactIsLetter", named := ["unicode.properties", "unicode.Letter"], apart := false, laid := [("unicode.properties", laid_unicode_properties), ("unicode.Letter", laid_unicode_Letter)], narrowed := true }
def FnExactIsLetterUptoSaid : Prop := fnExactIsLetterUptoRow.holds Tryd.pinned (OpenSpec.upto fnExactIsLetterSpec)

/-- 'laws.FnIsDigit', WHERE WHAT IT READS IS OF BULK AT MOST 1048576: true; the input reads as it did. -/
def fnIsDigitUptoRow : OpenClaim := { program := "ytkgammnojgngfaadoor", sum := "a38b28429ce1e0cc75d6c54b558f3d58a6060719c2dc19e1cb67fc89475fcbf7", func := "loop.example/lib-runeclasses/laws.FnIsDigit", spec := "fnIsDigit", named := ["unicode.Digit"], apart := false, laid := [("unicode.Digit", laid_unicode_Digit)], narrowed := true }
def FnIsDigitUptoSaid : Prop := fnIsDigitUptoRow.holds Tryd.pinned (OpenSpec.upto fnIsDigitSpec)

/-- 'laws.FnIsLetter', WHERE WHAT IT READS IS OF BULK AT MOST 1048576: true; the input reads as it did. -/
def fnIsLetterUptoRow : OpenClaim := { program := "ytkgammnojgngfaadoor", sum := "a38b28429ce1e0cc75d6c54b558f3d58a6060719c2dc19e1cb67fc89475fcbf7", func := "loop.example/lib-runeclasses/laws.FnIsLetter", spec := "fnIsLetter", named := ["unicode.properties", "unicode.Letter"], apart := false, laid := [("unicode.properties", laid_unicode_properties), ("unicode.Letter", laid_unicode_Letter)], narrowed := true }
def FnIsLetterUptoSaid : Prop := fnIsLetterUptoRow.holds Tryd.pinned (OpenSpec.upto fnIsLetterSpec)

/-- 'laws.FnExactIsUpper', WHERE WHAT IT READS IS OF BULK AT MOST 1048576: true; the input reads as it did. -/
def fnExactIsUpperUptoRow : OpenClaim := { program := "ytkgammnojgngfaadoor", sum := "a38b28429ce1e0cc75d6c54b558f3d58a6060719c2dc19e1cb67fc89475fcbf7", func := "loop.example/lib-runeclasses/laws.FnExactIsUpper", spec := "fnExactIsUpper", named := ["unicode.properties", "unicode.Upper"], apart := false, laid := [("unicode.properties", laid_unicode_properties), ("unicode.Upper", laid_unicode_Upper)], narrowed := true }
def FnExactIsUpperUptoSaid : Prop := fnExactIsUpperUptoRow.holds Tryd.pinned (OpenSpec.upto fnExactIsUpperSpec)

/-- 'laws.FnIsUpper', WHERE WHAT IT READS IS OF BULK AT MOST 1048576: true; the input reads as it did. -/
def fnIsUpperUptoRow : OpenClaim := { program := "ytkgammnojgngfaadoor", sum := "a38b28429ce1e0cc75d6c54b558f3d58a6060719c2dc19e1cb67fc89475fcbf7", func := "loop.example/lib-runeclasses/laws.FnIsUpper", spec := "fnIsUpper", named := ["unicode.properties", "unicode.Upper"], apart := false, laid := [("unicode.properties", laid_unicode_properties), ("unicode.Upper", laid_unicode_Upper)], narrowed := true }
def FnIsUpperUptoSaid : Prop := fnIsUpperUptoRow.holds Tryd.pinned (OpenSpec.upto fnIsUpperSpec)

/-- 'laws.FnExactIsSpace', WHERE WHAT IT READS IS OF BULK AT MOST 1048576: true; the input reads as it did. -/
def fnExactIsSpaceUptoRow : OpenClaim := { program := "ytkgammnojgngfaadoor", sum := "a38b28429ce1e0cc75d6c54b558f3d58a6060719c2dc19e1cb67fc89475fcbf7", func := "loop.example/lib-runeclasses/laws.FnExactIsSpace", spec := "fnExactIsSpace", named := ["unicode.White_Space"], apart := false, laid := [("unicode.White_Space", laid_unicode_White_Space)], narrowed := true }
def FnExactIsSpaceUptoSaid : Prop := fnExactIsSpaceUptoRow.holds Tryd.pinned (OpenSpec.upto fnExactIsSpaceSpec)

/-- 'laws.FnIsSpace', WHERE WHAT IT READS IS OF BULK AT MOST 1048576: true; the input reads as it did. -/
def fnIsSpaceUptoRow : OpenClaim := { program := "ytkgammnojgngfaadoor", sum := "a38b28429ce1e0cc75d6c54b558f3d58a6060719c2dc19e1cb67fc89475fcbf7", func := "loop.example/lib-runeclasses/laws.FnIsSpace", spec := "fnIsSpace", named := ["unicode.White_Space"], apart := false, laid := [("unicode.White_Space", laid_unicode_White_Space)], narrowed := true }
def FnIsSpaceUptoSaid : Prop := fnIsSpaceUptoRow.holds Tryd.pinned (OpenSpec.upto fnIsSpaceSpec)

/-- 'laws.FnUpperLetter', WHERE WHAT IT READS IS OF BULK AT MOST 1048576: true; the input reads as it did. -/
def fnUpperLetterUptoRow : OpenClaim := { program := "ytkgammnojgngfaadoor", sum := "a38b28429ce1e0cc75d6c54b558f3d58a6060719c2dc19e1cb67fc89475fcbf7", func := "loop.example/lib-runeclasses/laws.FnUpperLetter", spec := "fnUpperLetter", named := ["unicode.properties", "unicode.Upper", "unicode.Letter"], apart := false, laid := [("unicode.properties", laid_unicode_properties), ("unicode.Letter", laid_unicode_Letter), ("unicode.Upper", laid_unicode_Upper)], narrowed := true }
def FnUpperLetterUptoSaid : Prop := fnUpperLetterUptoRow.holds Tryd.pinned (OpenSpec.upto fnUpperLetterSpec)

/-- 'laws.FnUpperUpper', WHERE WHAT IT READS IS OF BULK AT MOST 1048576: true; the input reads as it did. -/
def fnUpperUpperUptoRow : OpenClaim := { program := "ytkgammnojgngfaadoor", sum := "a38b28429ce1e0cc75d6c54b558f3d58a6060719c2dc19e1cb67fc89475fcbf7", func := "loop.example/lib-runeclasses/laws.FnUpperUpper", spec := "fnUpperUpper", named := ["unicode.properties", "unicode.Upper", "unicode.CaseRanges"], apart := false, laid := [("unicode.properties", laid_unicode_properties), ("unicode.CaseRanges", laid_unicode_CaseRanges), ("unicode.Upper", laid_unicode_Upper)], narrowed := true }
def FnUpperUpperUptoSaid : Prop := fnUpperUpperUptoRow.holds Tryd.pinned (OpenSpec.upto fnUpperUpperSpec)

end Rows
end Go.Proofs.YtkgammnojgngfaaDoor
