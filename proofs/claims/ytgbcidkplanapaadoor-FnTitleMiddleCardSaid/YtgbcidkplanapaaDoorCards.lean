/-
  DERIVED. GIVEN WITH THE SEED: THE CARDS: each row of YtgbcidkplanapaaDoorRows.lean that lists a variable, with what it lists TIED to the program's text (the seventh form; the later family's looks); each row that meets fmt, with fmt's text TOLD by the authors' own Lean function (tested against real Go, not proved from fmt's source: count such statements apart). THE CARD IS WHAT COUNTS. Prove the row's statement (the work); the ties are given (YtgbcidkplanapaaDoorTie.lean); close each card by the builder's one call (the guide's Derived/Test/ToyasCard.lean, 'card_holds'). Laid BY PROGRAM, IN A SANDBOX (cutbox-door.mjs). By AI agents, Wed Nov 11 2026. No macro, syntax, notation, axiom, sorry.
-/
import Derived.Test.YtgbcidkplanapaaDoorRows
import GoSem.ClaimSeven
namespace Go.Proofs.YtgbcidkplanapaaDoor
namespace Rows

/-- THE TIED CARD OF 'laws.FnToLowerTwice'. -/
def fnToLowerTwiceCard : Claim7 := { stood := { row := fnToLowerTwiceRow, standIns := [], harness := (true, "3353a83b78e91f016f6c772192aca032deaa1d8f4ac39ca862be1f0b889ce488"), looks := false }, kinds := [], alts := [], laidByText := true, laidKinds := [.pinned], laidTests := true, laidLooks := .later }
def FnToLowerTwiceCardSaid : Prop := Claim7.holds Tryd.pinned (.plain (OpenSpec.ofChange fnToLowerTwiceSpec)) fnToLowerTwiceCard

/-- THE TIED CARD OF 'laws.FnToTitle'. -/
def fnToTitleCard : Claim7 := { stood := { row := fnToTitleRow, standIns := [], harness := (true, "3353a83b78e91f016f6c772192aca032deaa1d8f4ac39ca862be1f0b889ce488"), looks := false }, kinds := [], alts := [], laidByText := true, laidKinds := [.pinned], laidTests := true, laidLooks := .later }
def FnToTitleCardSaid : Prop := Claim7.holds Tryd.pinned (.plain (OpenSpec.ofChange fnToTitleSpec)) fnToTitleCard

/-- THE TIED CARD OF 'laws.FnToTitleTwice'. -/
def fnToTitleTwiceCard : Claim7 := { stood := { row := fnToTitleTwiceRow, standIns := [], harness := (true, "3353a83b78e91f016f6c772192aca032deaa1d8f4ac39ca862be1f0b889ce488"), looks := false }, kinds := [], alts := [], laidByText := true, laidKinds := [.pinned], laidTests := true, laidLooks := .later }
def FnToTitleTwiceCardSaid : Prop := Claim7.holds Tryd.pinned (.plain (OpenSpec.ofChange fnToTitleTwiceSpec)) fnToTitleTwiceCard

/-- THE TIED CARD OF 'laws.FnToUpper'. -/
def fnToUpperCard : Claim7 := { stood := { row := fnToUpperRow, standIns := [], harness := (true, "3353a83b78e91f016f6c772192aca032deaa1d8f4ac39ca862be1f0b889ce488"), looks := false }, kinds := [], alts := [], laidByText := true, laidKinds := [.pinned], laidTests := true, laidLooks := .later }
def FnToUpperCardSaid : Prop := Claim7.holds Tryd.pinned (.plain (OpenSpec.ofChange fnToUpperSpec)) fnToUpperCard

/-- THE TIED CARD OF 'laws.FnToUpperTwice'. -/
def fnToUpperTwiceCard : Claim7 := { stood := { row := fnToUpperTwiceRow, standIns := [], harness := (true, "3353a83b78e91f016f6c772192aca032deaa1d8f4ac39ca862be1f0b889ce488"), looks := false }, kinds := [], alts := [], laidByText := true, laidKinds := [.pinned], laidTests := true, laidLooks := .later }
def FnToUpperTwiceCardSaid : Prop := Claim7.holds Tryd.pinned (.plain (OpenSpec.ofChange fnToUpperTwiceSpec)) fnToUpperTwiceCard

/-- THE TIED CARD OF 'laws.FnLowerUpper'. -/
def fnLowerUpperCard : Claim7 := { stood := { row := fnLowerUpperRow, standIns := [], harness := (true, "3353a83b78e91f016f6c772192aca032deaa1d8f4ac39ca862be1f0b889ce488"), looks := false }, kinds := [], alts := [], laidByText := true, laidKinds := [.pinned], laidTests := true, laidLooks := .later }
def FnLowerUpperCardSaid : Prop := Claim7.holds Tryd.pinned (.plain (OpenSpec.ofChange fnLowerUpperSpec)) fnLowerUpperCard

/-- THE TIED CARD OF 'laws.FnTitleUpper'. -/
def fnTitleUpperCard : Claim7 := { stood := { row := fnTitleUpperRow, standIns := [], harness := (true, "3353a83b78e91f016f6c772192aca032deaa1d8f4ac39ca862be1f0b889ce488"), looks := false }, kinds := [], alts := [], laidByText := true, laidKinds := [.pinned], laidTests := true, laidLooks := .later }
def FnTitleUpperCardSaid : Prop := Claim7.holds Tryd.pinned (.plain (OpenSpec.ofChange fnTitleUpperSpec)) fnTitleUpperCard

/-- THE TIED CARD OF 'laws.FnUpperLower'. -/
def fnUpperLowerCard : Claim7 := { stood := { row := fnUpperLowerRow, standIns := [], harness := (true, "3353a83b78e91f016f6c772192aca032deaa1d8f4ac39ca862be1f0b889ce488"), looks := false }, kinds := [], alts := [], laidByText := true, laidKinds := [.pinned], laidTests := true, laidLooks := .later }
def FnUpperLowerCardSaid : Prop := Claim7.holds Tryd.pinned (.plain (OpenSpec.ofChange fnUpperLowerSpec)) fnUpperLowerCard

/-- THE TIED CARD OF 'laws.FnInvalidMap'. -/
def fnInvalidMapCard : Claim7 := { stood := { row := fnInvalidMapRow, standIns := [], harness := (true, "3353a83b78e91f016f6c772192aca032deaa1d8f4ac39ca862be1f0b889ce488"), looks := false }, kinds := [], alts := [], laidByText := true, laidKinds := [.pinned], laidTests := true, laidLooks := .later }
def FnInvalidMapCardSaid : Prop := Claim7.holds Tryd.pinned (.plain (OpenSpec.ofChange fnInvalidMapSpec)) fnInvalidMapCard

/-- THE TIED CARD OF 'laws.FnMapASCII'. -/
def fnMapASCIICard : Claim7 := { stood := { row := fnMapASCIIRow, standIns := [], harness := (true, "3353a83b78e91f016f6c772192aca032deaa1d8f4ac39ca862be1f0b889ce488"), looks := false }, kinds := [], alts := [], laidByText := true, laidKinds := [.pinned], laidTests := true, laidLooks := .later }
def FnMapASCIICardSaid : Prop := Claim7.holds Tryd.pinned (.plain (OpenSpec.ofChange fnMapASCIISpec)) fnMapASCIICard

/-- THE TIED CARD OF 'laws.FnTitleGeorgian'. -/
def fnTitleGeorgianCard : Claim7 := { stood := { row := fnTitleGeorgianRow, standIns := [], harness := (true, "3353a83b78e91f016f6c772192aca032deaa1d8f4ac39ca862be1f0b889ce488"), looks := false }, kinds := [], alts := [], laidByText := true, laidKinds := [.pinned], laidTests := true, laidLooks := .later }
def FnTitleGeorgianCardSaid : Prop := Claim7.holds Tryd.pinned (.plain (OpenSpec.ofChange fnTitleGeorgianSpec)) fnTitleGeorgianCard

/-- THE TIED CARD OF 'laws.FnTitleMiddle'. -/
def fnTitleMiddleCard : Claim7 := { stood := { row := fnTitleMiddleRow, standIns := [], harness := (true, "3353a83b78e91f016f6c772192aca032deaa1d8f4ac39ca862be1f0b889ce488"), looks := false }, kinds := [], alts := [], laidByText := true, laidKinds := [.pinned], laidTests := true, laidLooks := .later }
def FnTitleMiddleCardSaid : Prop := Claim7.holds Tryd.pinned (.plain (OpenSpec.ofChange fnTitleMiddleSpec)) fnTitleMiddleCard

/-- THE SECOND FORM's CARD OF 'laws.FnToLowerTwice'. -/
def fnToLowerTwiceUptoCard : Claim7 := { stood := { row := fnToLowerTwiceUptoRow, standIns := [], harness := (true, "3353a83b78e91f016f6c772192aca032deaa1d8f4ac39ca862be1f0b889ce488"), looks := false }, kinds := [], alts := [], laidByText := true, laidKinds := [.pinned], laidTests := true, laidLooks := .later }
def FnToLowerTwiceUptoCardSaid : Prop := Claim7.holds Tryd.pinned (.plain (OpenSpec.upto fnToLowerTwiceSpec)) fnToLowerTwiceUptoCard

/-- THE SECOND FORM's CARD OF 'laws.FnToTitle'. -/
def fnToTitleUptoCard : Claim7 := { stood := { row := fnToTitleUptoRow, standIns := [], harness := (true, "3353a83b78e91f016f6c772192aca032deaa1d8f4ac39ca862be1f0b889ce488"), looks := false }, kinds := [], alts := [], laidByText := true, laidKinds := [.pinned], laidTests := true, laidLooks := .later }
def FnToTitleUptoCardSaid : Prop := Claim7.holds Tryd.pinned (.plain (OpenSpec.upto fnToTitleSpec)) fnToTitleUptoCard

/-- THE SECOND FORM's CARD OF 'laws.FnToTitleTwice'. -/
def fnToTitleTwiceUptoCard : Claim7 := { stood := { row := fnToTitleTwiceUptoRow, standIns := [], harness := (true, "3353a83b78e91f016f6c772192aca032deaa1d8f4ac39ca862be1f0b889ce488"), looks := false }, kinds := [], alts := [], laidByText := true, laidKinds := [.pinned], laidTests := true, laidLooks := .later }
def FnToTitleTwiceUptoCardSaid : Prop := Claim7.holds Tryd.pinned (.plain (OpenSpec.upto fnToTitleTwiceSpec)) fnToTitleTwiceUptoCard

/-- THE SECOND FORM's CARD OF 'laws.FnToUpper'. -/
def fnToUpperUptoCard : Claim7 := { stood := { row := fnToUpperUptoRow, standIns := [], harness := (true, "3353a83b78e91f016f6c772192aca032deaa1d8f4ac39ca862be1f0b889ce488"), looks := false }, kinds := [], alts := [], laidByText := true, laidKinds := [.pinned], laidTests := true, laidLooks := .later }
def FnToUpperUptoCardSaid : Prop := Claim7.holds Tryd.pinned (.plain (OpenSpec.upto fnToUpperSpec)) fnToUpperUptoCard

/-- THE SECOND FORM's CARD OF 'laws.FnToUpperTwice'. -/
def fnToUpperTwiceUptoCard : Claim7 := { stood := { row := fnToUpperTwiceUptoRow, standIns := [], harness := (true, "3353a83b78e91f016f6c772192aca032deaa1d8f4ac39ca862be1f0b889ce488"), looks := false }, kinds := [], alts := [], laidByText := true, laidKinds := [.pinned], laidTests := true, laidLooks := .later }
def FnToUpperTwiceUptoCardSaid : Prop := Claim7.holds Tryd.pinned (.plain (OpenSpec.upto fnToUpperTwiceSpec)) fnToUpperTwiceUptoCard

/-- THE SECOND FORM's CARD OF 'laws.FnLowerUpper'. -/
def fnLowerUpperUptoCard : Claim7 := { stood := { row := fnLowerUpperUptoRow, standIns := [], harness := (true, "3353a83b78e91f016f6c772192aca032deaa1d8f4ac39ca862be1f0b889ce488"), looks := false }, kinds := [], alts := [], laidByText := true, laidKinds := [.pinned], laidTests := true, laidLooks := .later }
def FnLowerUpperUptoCardSaid : Prop := Claim7.holds Tryd.pinned (.plain (OpenSpec.upto fnLowerUpperSpec)) fnLowerUpperUptoCard

/-- THE SECOND FORM's CARD OF 'laws.FnTitleUpper'. -/
def fnTitleUpperUptoCard : Claim7 := { stood := { row := fnTitleUpperUptoRow, standIns := [], harness := (true, "3353a83b78e91f016f6c772192aca032deaa1d8f4ac39ca862be1f0b889ce488"), looks := false }, kinds := [], alts := [], laidByText := true, laidKinds := [.pinned], laidTests := true, laidLooks := .later }
def FnTitleUpperUptoCardSaid : Prop := Claim7.holds Tryd.pinned (.plain (OpenSpec.upto fnTitleUpperSpec)) fnTitleUpperUptoCard

/-- THE SECOND FORM's CARD OF 'laws.FnUpperLower'. -/
def fnUpperLowerUptoCard : Claim7 := { stood := { row := fnUpperLowerUptoRow, standIns := [], harness := (true, "3353a83b78e91f016f6c772192aca032deaa1d8f4ac39ca862be1f0b889ce488"), looks := false }, kinds := [], alts := [], laidByText := true, laidKinds := [.pinned], laidTests := true, laidLooks := .later }
def FnUpperLowerUptoCardSaid : Prop := Claim7.holds Tryd.pinned (.plain (OpenSpec.upto fnUpperLowerSpec)) fnUpperLowerUptoCard

/-- THE SECOND FORM's CARD OF 'laws.FnInvalidMap'. -/
def fnInvalidMapUptoCard : Claim7 := { stood := { row := fnInvalidMapUptoRow, standIns := [], harness := (true, "3353a83b78e91f016f6c772192aca032deaa1d8f4ac39ca862be1f0b889ce488"), looks := false }, kinds := [], alts := [], laidByText := true, laidKinds := [.pinned], laidTests := true, laidLooks := .later }
def FnInvalidMapUptoCardSaid : Prop := Claim7.holds Tryd.pinned (.plain (OpenSpec.upto fnInvalidMapSpec)) fnInvalidMapUptoCard

/-- THE SECOND FORM's CARD OF 'laws.FnMapASCII'. -/
def fnMapASCIIUptoCard : Claim7 := { stood := { row := fnMapASCIIUptoRow, standIns := [], harness := (true, "3353a83b78e91f016f6c772192aca032deaa1d8f4ac39ca862be1f0b889ce488"), looks := false }, kinds := [], alts := [], laidByText := true, laidKinds := [.pinned], laidTests := true, laidLooks := .later }
def FnMapASCIIUptoCardSaid : Prop := Claim7.holds Tryd.pinned (.plain (OpenSpec.upto fnMapASCIISpec)) fnMapASCIIUptoCard

/-- THE SECOND FORM's CARD OF 'laws.FnTitleGeorgian'. -/
def fnTitleGeorgianUptoCard : Claim7 := { stood := { row := fnTitleGeorgianUptoRow, standIns := [], harness := (true, "3353a83b78e91f016f6c772192aca032deaa1d8f4ac39ca862be1f0b889ce488"), looks := false }, kinds := [], alts := [], laidByText := true, laidKinds := [.pinned], laidTests := true, laidLooks := .later }
def FnTitleGeorgianUptoCardSaid : Prop := Claim7.holds Tryd.pinned (.plain (OpenSpec.upto fnTitleGeorgianSpec)) fnTitleGeorgianUptoCard

/-- THE SECOND FORM's CARD OF 'laws.FnTitleMiddle'. -/
def fnTitleMiddleUptoCard : Claim7 := { stood := { row := fnTitleMiddleUptoRow, standIns := [], harness := (true, "3353a83b78e91f016f6c772192aca032deaa1d8f4ac39ca862be1f0b889ce488"), looks := false }, kinds := [], alts := [], laidByText := true, laidKinds := [.pinned], laidTests := true, laidLooks := .later }
def FnTitleMiddleUptoCardSaid : Prop := Claim7.holds Tryd.pinned (.plain (OpenSpec.upto fnTitleMiddleSpec)) fnTitleMiddleUptoCard
end Rows
end Go.Proofs.YtgbcidkplanapaaDoor
