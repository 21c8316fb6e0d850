/-
  DERIVED. GIVEN WITH THE SEED: THE CARDS: each row of YtfdbcjdkikmjiaaDoorRows.lean that lists a variable, with what it lists TIED to the program's text (the seventh form; the later family's looks); each row that meets fmt, with fmt's text TOLD by the authors' own Lean function (tested against real Go, not proved from fmt's source: count such statements apart). THE CARD IS WHAT COUNTS. Prove the row's statement (the work); the ties are given (YtfdbcjdkikmjiaaDoorTie.lean); close each card by the builder's one call (the guide's Derived/Test/ToyasCard.lean, 'card_holds'). Laid BY PROGRAM, IN A SANDBOX (cutbox-door.mjs). By AI agents, Wed Nov 11 2026. No macro, syntax, notation, axiom, sorry.
-/
import Derived.Test.YtfdbcjdkikmjiaaDoorRows
import GoSem.ClaimSeven
namespace Go.Proofs.YtfdbcjdkikmjiaaDoor
namespace Rows

/-- THE TIED CARD OF 'laws.FnExactSimpleFold'. -/
def fnExactSimpleFoldCard : Claim7 := { stood := { row := fnExactSimpleFoldRow, standIns := [], harness := (true, "088aa4588282660c7b770ef125fc6a1cd29f554e7788a136b735b7472ada3b3c"), looks := false }, kinds := [], alts := [], laidByText := true, laidKinds := [.data, .data, .pinned], laidTests := true, laidLooks := .later }
def FnExactSimpleFoldCardSaid : Prop := Claim7.holds Tryd.pinned (.plain (OpenSpec.ofChange fnExactSimpleFoldSpec)) fnExactSimpleFoldCard

/-- THE TIED CARD OF 'laws.FnFoldASCII'. -/
def fnFoldASCIICard : Claim7 := { stood := { row := fnFoldASCIIRow, standIns := [], harness := (true, "088aa4588282660c7b770ef125fc6a1cd29f554e7788a136b735b7472ada3b3c"), looks := false }, kinds := [], alts := [], laidByText := true, laidKinds := [.data, .data, .pinned], laidTests := true, laidLooks := .later }
def FnFoldASCIICardSaid : Prop := Claim7.holds Tryd.pinned (.plain (OpenSpec.ofChange fnFoldASCIISpec)) fnFoldASCIICard

/-- THE TIED CARD OF 'laws.FnFoldApart'. -/
def fnFoldApartCard : Claim7 := { stood := { row := fnFoldApartRow, standIns := [], harness := (true, "088aa4588282660c7b770ef125fc6a1cd29f554e7788a136b735b7472ada3b3c"), looks := false }, kinds := [], alts := [], laidByText := true, laidKinds := [.data, .data, .pinned], laidTests := true, laidLooks := .later }
def FnFoldApartCardSaid : Prop := Claim7.holds Tryd.pinned (.plain (OpenSpec.ofChange fnFoldApartSpec)) fnFoldApartCard

/-- THE TIED CARD OF 'laws.FnFoldExample'. -/
def fnFoldExampleCard : Claim7 := { stood := { row := fnFoldExampleRow, standIns := [], harness := (true, "088aa4588282660c7b770ef125fc6a1cd29f554e7788a136b735b7472ada3b3c"), looks := false }, kinds := [], alts := [], laidByText := true, laidKinds := [.data, .data, .pinned], laidTests := true, laidLooks := .later }
def FnFoldExampleCardSaid : Prop := Claim7.holds Tryd.pinned (.plain (OpenSpec.ofChange fnFoldExampleSpec)) fnFoldExampleCard

/-- THE TIED CARD OF 'laws.FnFoldTurkish'. -/
def fnFoldTurkishCard : Claim7 := { stood := { row := fnFoldTurkishRow, standIns := [], harness := (true, "088aa4588282660c7b770ef125fc6a1cd29f554e7788a136b735b7472ada3b3c"), looks := false }, kinds := [], alts := [], laidByText := true, laidKinds := [.data, .data, .pinned], laidTests := true, laidLooks := .later }
def FnFoldTurkishCardSaid : Prop := Claim7.holds Tryd.pinned (.plain (OpenSpec.ofChange fnFoldTurkishSpec)) fnFoldTurkishCard

/-- THE TIED CARD OF 'laws.FnFoldTurn'. -/
def fnFoldTurnCard : Claim7 := { stood := { row := fnFoldTurnRow, standIns := [], harness := (true, "088aa4588282660c7b770ef125fc6a1cd29f554e7788a136b735b7472ada3b3c"), looks := false }, kinds := [], alts := [], laidByText := true, laidKinds := [.data, .data, .pinned], laidTests := true, laidLooks := .later }
def FnFoldTurnCardSaid : Prop := Claim7.holds Tryd.pinned (.plain (OpenSpec.ofChange fnFoldTurnSpec)) fnFoldTurnCard

/-- THE TIED CARD OF 'laws.FnFoldUp'. -/
def fnFoldUpCard : Claim7 := { stood := { row := fnFoldUpRow, standIns := [], harness := (true, "088aa4588282660c7b770ef125fc6a1cd29f554e7788a136b735b7472ada3b3c"), looks := false }, kinds := [], alts := [], laidByText := true, laidKinds := [.data, .data, .pinned], laidTests := true, laidLooks := .later }
def FnFoldUpCardSaid : Prop := Claim7.holds Tryd.pinned (.plain (OpenSpec.ofChange fnFoldUpSpec)) fnFoldUpCard

/-- THE TIED CARD OF 'laws.FnInvalidFold'. -/
def fnInvalidFoldCard : Claim7 := { stood := { row := fnInvalidFoldRow, standIns := [], harness := (true, "088aa4588282660c7b770ef125fc6a1cd29f554e7788a136b735b7472ada3b3c"), looks := false }, kinds := [], alts := [], laidByText := true, laidKinds := [.data, .data, .pinned], laidTests := true, laidLooks := .later }
def FnInvalidFoldCardSaid : Prop := Claim7.holds Tryd.pinned (.plain (OpenSpec.ofChange fnInvalidFoldSpec)) fnInvalidFoldCard

/-- THE TIED CARD OF 'laws.FnSimpleFold'. -/
def fnSimpleFoldCard : Claim7 := { stood := { row := fnSimpleFoldRow, standIns := [], harness := (true, "088aa4588282660c7b770ef125fc6a1cd29f554e7788a136b735b7472ada3b3c"), looks := false }, kinds := [], alts := [], laidByText := true, laidKinds := [.data, .data, .pinned], laidTests := true, laidLooks := .later }
def FnSimpleFoldCardSaid : Prop := Claim7.holds Tryd.pinned (.plain (OpenSpec.ofChange fnSimpleFoldSpec)) fnSimpleFoldCard

/-- THE TIED CARD OF 'laws.FnFoldCase'. -/
def fnFoldCaseCard : Claim7 := { stood := { row := fnFoldCaseRow, standIns := [], harness := (true, "088aa4588282660c7b770ef125fc6a1cd29f554e7788a136b735b7472ada3b3c"), looks := false }, kinds := [], alts := [], laidByText := true, laidKinds := [.data, .data, .pinned], laidTests := true, laidLooks := .later }
def FnFoldCaseCardSaid : Prop := Claim7.holds Tryd.pinned (.plain (OpenSpec.ofChange fnFoldCaseSpec)) fnFoldCaseCard

/-- THE TIED CARD OF 'laws.FnMapValid'. -/
def fnMapValidCard : Claim7 := { stood := { row := fnMapValidRow, standIns := [], harness := (true, "088aa4588282660c7b770ef125fc6a1cd29f554e7788a136b735b7472ada3b3c"), looks := false }, kinds := [], alts := [], laidByText := true, laidKinds := [.data, .data, .pinned], laidTests := true, laidLooks := .later }
def FnMapValidCardSaid : Prop := Claim7.holds Tryd.pinned (.plain (OpenSpec.ofChange fnMapValidSpec)) fnMapValidCard

/-- THE TIED CARD OF 'laws.FnNothingMap'. -/
def fnNothingMapCard : Claim7 := { stood := { row := fnNothingMapRow, standIns := [], harness := (true, "088aa4588282660c7b770ef125fc6a1cd29f554e7788a136b735b7472ada3b3c"), looks := false }, kinds := [], alts := [], laidByText := true, laidKinds := [.data, .data, .pinned], laidTests := true, laidLooks := .later }
def FnNothingMapCardSaid : Prop := Claim7.holds Tryd.pinned (.plain (OpenSpec.ofChange fnNothingMapSpec)) fnNothingMapCard

/-- THE SECOND FORM's CARD OF 'laws.FnExactSimpleFold'. -/
def fnExactSimpleFoldUptoCard : Claim7 := { stood := { row := fnExactSimpleFoldUptoRow, standIns := [], harness := (true, "088aa4588282660c7b770ef125fc6a1cd29f554e7788a136b735b7472ada3b3c"), looks := false }, kinds := [], alts := [], laidByText := true, laidKinds := [.data, .data, .pinned], laidTests := true, laidLooks := .later }
def FnExactSimpleFoldUptoCardSaid : Prop := Claim7.holds Tryd.pinned (.plain (OpenSpec.upto fnExactSimpleFoldSpec)) fnExactSimpleFoldUptoCard

/-- THE SECOND FORM's CARD OF 'laws.FnFoldASCII'. -/
def fnFoldASCIIUptoCard : Claim7 := { stood := { row := fnFoldASCIIUptoRow, standIns := [], harness := (true, "088aa4588282660c7b770ef125fc6a1cd29f554e7788a136b735b7472ada3b3c"), looks := false }, kinds := [], alts := [], laidByText := true, laidKinds := [.data, .data, .pinned], laidTests := true, laidLooks := .later }
def FnFoldASCIIUptoCardSaid : Prop := Claim7.holds Tryd.pinned (.plain (OpenSpec.upto fnFoldASCIISpec)) fnFoldASCIIUptoCard

/-- THE SECOND FORM's CARD OF 'laws.FnFoldApart'. -/
def fnFoldApartUptoCard : Claim7 := { stood := { row := fnFoldApartUptoRow, standIns := [], harness := (true, "088aa4588282660c7b770ef125fc6a1cd29f554e7788a136b735b7472ada3b3c"), looks := false }, kinds := [], alts := [], laidByText := true, laidKinds := [.data, .data, .pinned], laidTests := true, laidLooks := .later }
def FnFoldApartUptoCardSaid : Prop := Claim7.holds Tryd.pinned (.plain (OpenSpec.upto fnFoldApartSpec)) fnFoldApartUptoCard

/-- THE SECOND FORM's CARD OF 'laws.FnFoldExample'. -/
def fnFoldExampleUptoCard : Claim7 := { stood := { row := fnFoldExampleUptoRow, standIns := [], harness := (true, "088aa4588282660c7b770ef125fc6a1cd29f554e7788a136b735b7472ada3b3c"), looks := false }, kinds := [], alts := [], laidByText := true, laidKinds := [.data, .data, .pinned], laidTests := true, laidLooks := .later }
def FnFoldExampleUptoCardSaid : Prop := Claim7.holds Tryd.pinned (.plain (OpenSpec.upto fnFoldExampleSpec)) fnFoldExampleUptoCard

/-- THE SECOND FORM's CARD OF 'laws.FnFoldTurkish'. -/
def fnFoldTurkishUptoCard : Claim7 := { stood := { row := fnFoldTurkishUptoRow, standIns := [], harness := (true, "088aa4588282660c7b770ef125fc6a1cd29f554e7788a136b735b7472ada3b3c"), looks := false }, kinds := [], alts := [], laidByText := true, laidKinds := [.data, .data, .pinned], laidTests := true, laidLooks := .later }
def FnFoldTurkishUptoCardSaid : Prop := Claim7.holds Tryd.pinned (.plain (OpenSpec.upto fnFoldTurkishSpec)) fnFoldTurkishUptoCard

/-- THE SECOND FORM's CARD OF 'laws.FnFoldTurn'. -/
def fnFoldTurnUptoCard : Claim7 := { stood := { row := fnFoldTurnUptoRow, standIns := [], harness := (true, "088aa4588282660c7b770ef125fc6a1cd29f554e7788a136b735b7472ada3b3c"), looks := false }, kinds := [], alts := [], laidByText := true, laidKinds := [.data, .data, .pinned], laidTests := true, laidLooks := .later }
def FnFoldTurnUptoCardSaid : Prop := Claim7.holds Tryd.pinned (.plain (OpenSpec.upto fnFoldTurnSpec)) fnFoldTurnUptoCard

/-- THE SECOND FORM's CARD OF 'laws.FnFoldUp'. -/
def fnFoldUpUptoCard : Claim7 := { stood := { row := fnFoldUpUptoRow, standIns := [], harness := (true, "088aa4588282660c7b770ef125fc6a1cd29f554e7788a136b735b7472ada3b3c"), looks := false }, kinds := [], alts := [], laidByText := true, laidKinds := [.data, .data, .pinned], laidTests := true, laidLooks := .later }
def FnFoldUpUptoCardSaid : Prop := Claim7.holds Tryd.pinned (.plain (OpenSpec.upto fnFoldUpSpec)) fnFoldUpUptoCard

/-- THE SECOND FORM's CARD OF 'laws.FnInvalidFold'. -/
def fnInvalidFoldUptoCard : Claim7 := { stood := { row := fnInvalidFoldUptoRow, standIns := [], harness := (true, "088aa4588282660c7b770ef125fc6a1cd29f554e7788a136b735b7472ada3b3c"), looks := false }, kinds := [], alts := [], laidByText := true, laidKinds := [.data, .data, .pinned], laidTests := true, laidLooks := .later }
def FnInvalidFoldUptoCardSaid : Prop := Claim7.holds Tryd.pinned (.plain (OpenSpec.upto fnInvalidFoldSpec)) fnInvalidFoldUptoCard

/-- THE SECOND FORM's CARD OF 'laws.FnSimpleFold'. -/
def fnSimpleFoldUptoCard : Claim7 := { stood := { row := fnSimpleFoldUptoRow, standIns := [], harness := (true, "088aa4588282660c7b770ef125fc6a1cd29f554e7788a136b735b7472ada3b3c"), looks := false }, kinds := [], alts := [], laidByText := true, laidKinds := [.data, .data, .pinned], laidTests := true, laidLooks := .later }
def FnSimpleFoldUptoCardSaid : Prop := Claim7.holds Tryd.pinned (.plain (OpenSpec.upto fnSimpleFoldSpec)) fnSimpleFoldUptoCard

/-- THE SECOND FORM's CARD OF 'laws.FnFoldCase'. -/
def fnFoldCaseUptoCard : Claim7 := { stood := { row := fnFoldCaseUptoRow, standIns := [], harness := (true, "088aa4588282660c7b770ef125fc6a1cd29f554e7788a136b735b7472ada3b3c"), looks := false }, kinds := [], alts := [], laidByText := true, laidKinds := [.data, .data, .pinned], laidTests := true, laidLooks := .later }
def FnFoldCaseUptoCardSaid : Prop := Claim7.holds Tryd.pinned (.plain (OpenSpec.upto fnFoldCaseSpec)) fnFoldCaseUptoCard

/-- THE SECOND FORM's CARD OF 'laws.FnMapValid'. -/
def fnMapValidUptoCard : Claim7 := { stood := { row := fnMapValidUptoRow, standIns := [], harness := (true, "088aa4588282660c7b770ef125fc6a1cd29f554e7788a136b735b7472ada3b3c"), looks := false }, kinds := [], alts := [], laidByText := true, laidKinds := [.data, .data, .pinned], laidTests := true, laidLooks := .later }
def FnMapValidUptoCardSaid : Prop := Claim7.holds Tryd.pinned (.plain (OpenSpec.upto fnMapValidSpec)) fnMapValidUptoCard

/-- THE SECOND FORM's CARD OF 'laws.FnNothingMap'. -/
def fnNothingMapUptoCard : Claim7 := { stood := { row := fnNothingMapUptoRow, standIns := [], harness := (true, "088aa4588282660c7b770ef125fc6a1cd29f554e7788a136b735b7472ada3b3c"), looks := false }, kinds := [], alts := [], laidByText := true, laidKinds := [.data, .data, .pinned], laidTests := true, laidLooks := .later }
def FnNothingMapUptoCardSaid : Prop := Claim7.holds Tryd.pinned (.plain (OpenSpec.upto fnNothingMapSpec)) fnNothingMapUptoCard
end Rows
end Go.Proofs.YtfdbcjdkikmjiaaDoor
