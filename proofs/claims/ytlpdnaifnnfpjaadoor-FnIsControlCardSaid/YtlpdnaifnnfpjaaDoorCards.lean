/-
  DERIVED. GIVEN WITH THE SEED: THE CARDS: each row of YtlpdnaifnnfpjaaDoorRows.lean that lists a variable, with what it lists TIED to the program's text (the seventh form; the later family's looks); each row that meets fmt, with fmt's text TOLD by the authors' own Lean function (tested against real Go, not proved from fmt's source: count such statements apart). THE CARD IS WHAT COUNTS. Prove the row's statement (the work); the ties are given (YtlpdnaifnnfpjaaDoorTie.lean); close each card by the builder's one call (the guide's Derived/Test/ToyasCard.lean, 'card_holds'). Laid BY PROGRAM, IN A SANDBOX (cutbox-door.mjs). By AI agents, Wed Nov 11 2026. No macro, syntax, notation, axiom, sorry.
-/
import Derived.Test.YtlpdnaifnnfpjaaDoorRows
import GoSem.ClaimSeven
namespace Go.Proofs.YtlpdnaifnnfpjaaDoor
namespace Rows

/-- THE TIED CARD OF 'laws.FnExactIsControl'. -/
def fnExactIsControlCard : Claim7 := { stood := { row := fnExactIsControlRow, standIns := [], harness := (true, "9a6488adebe255aa576917a3c0cf0c71033882394b6a18f0142b7bacfb7b00d7"), looks := false }, kinds := [], alts := [], laidByText := true, laidKinds := [.data], laidTests := true, laidLooks := .later }
def FnExactIsControlCardSaid : Prop := Claim7.holds Tryd.pinned (.plain (OpenSpec.ofChange fnExactIsControlSpec)) fnExactIsControlCard

/-- THE TIED CARD OF 'laws.FnIsControl'. -/
def fnIsControlCard : Claim7 := { stood := { row := fnIsControlRow, standIns := [], harness := (true, "9a6488adebe255aa576917a3c0cf0c71033882394b6a18f0142b7bacfb7b00d7"), looks := false }, kinds := [], alts := [], laidByText := true, laidKinds := [.data], laidTests := true, laidLooks := .later }
def FnIsControlCardSaid : Prop := Claim7.holds Tryd.pinned (.plain (OpenSpec.ofChange fnIsControlSpec)) fnIsControlCard

/-- THE TIED CARD OF 'laws.FnExactToLower'. -/
def fnExactToLowerCard : Claim7 := { stood := { row := fnExactToLowerRow, standIns := [], harness := (true, "9a6488adebe255aa576917a3c0cf0c71033882394b6a18f0142b7bacfb7b00d7"), looks := false }, kinds := [], alts := [], laidByText := true, laidKinds := [.pinned], laidTests := true, laidLooks := .later }
def FnExactToLowerCardSaid : Prop := Claim7.holds Tryd.pinned (.plain (OpenSpec.ofChange fnExactToLowerSpec)) fnExactToLowerCard

/-- THE TIED CARD OF 'laws.FnExactToTitle'. -/
def fnExactToTitleCard : Claim7 := { stood := { row := fnExactToTitleRow, standIns := [], harness := (true, "9a6488adebe255aa576917a3c0cf0c71033882394b6a18f0142b7bacfb7b00d7"), looks := false }, kinds := [], alts := [], laidByText := true, laidKinds := [.pinned], laidTests := true, laidLooks := .later }
def FnExactToTitleCardSaid : Prop := Claim7.holds Tryd.pinned (.plain (OpenSpec.ofChange fnExactToTitleSpec)) fnExactToTitleCard

/-- THE TIED CARD OF 'laws.FnExactToUpper'. -/
def fnExactToUpperCard : Claim7 := { stood := { row := fnExactToUpperRow, standIns := [], harness := (true, "9a6488adebe255aa576917a3c0cf0c71033882394b6a18f0142b7bacfb7b00d7"), looks := false }, kinds := [], alts := [], laidByText := true, laidKinds := [.pinned], laidTests := true, laidLooks := .later }
def FnExactToUpperCardSaid : Prop := Claim7.holds Tryd.pinned (.plain (OpenSpec.ofChange fnExactToUpperSpec)) fnExactToUpperCard

/-- THE TIED CARD OF 'laws.FnToLower'. -/
def fnToLowerCard : Claim7 := { stood := { row := fnToLowerRow, standIns := [], harness := (true, "9a6488adebe255aa576917a3c0cf0c71033882394b6a18f0142b7bacfb7b00d7"), looks := false }, kinds := [], alts := [], laidByText := true, laidKinds := [.pinned], laidTests := true, laidLooks := .later }
def FnToLowerCardSaid : Prop := Claim7.holds Tryd.pinned (.plain (OpenSpec.ofChange fnToLowerSpec)) fnToLowerCard

/-- THE SECOND FORM's CARD OF 'laws.FnExactIsControl'. -/
def fnExactIsControlUptoCard : Claim7 := { stood := { row := fnExactIsControlUptoRow, standIns := [], harness := (true, "9a6488adebe255aa576917a3c0cf0c71033882394b6a18f0142b7bacfb7b00d7"), looks := false }, kinds := [], alts := [], laidByText := true, laidKinds := [.data], laidTests := true, laidLooks := .later }
def FnExactIsControlUptoCardSaid : Prop := Claim7.holds Tryd.pinned (.plain (OpenSpec.upto fnExactIsControlSpec)) fnExactIsControlUptoCard

/-- THE SECOND FORM's CARD OF 'laws.FnIsControl'. -/
def fnIsControlUptoCard : Claim7 := { stood := { row := fnIsControlUptoRow, standIns := [], harness := (true, "9a6488adebe255aa576917a3c0cf0c71033882394b6a18f0142b7bacfb7b00d7"), looks := false }, kinds := [], alts := [], laidByText := true, laidKinds := [.data], laidTests := true, laidLooks := .later }
def FnIsControlUptoCardSaid : Prop := Claim7.holds Tryd.pinned (.plain (OpenSpec.upto fnIsControlSpec)) fnIsControlUptoCard

/-- THE SECOND FORM's CARD OF 'laws.FnExactToLower'. -/
def fnExactToLowerUptoCard : Claim7 := { stood := { row := fnExactToLowerUptoRow, standIns := [], harness := (true, "9a6488adebe255aa576917a3c0cf0c71033882394b6a18f0142b7bacfb7b00d7"), looks := false }, kinds := [], alts := [], laidByText := true, laidKinds := [.pinned], laidTests := true, laidLooks := .later }
def FnExactToLowerUptoCardSaid : Prop := Claim7.holds Tryd.pinned (.plain (OpenSpec.upto fnExactToLowerSpec)) fnExactToLowerUptoCard

/-- THE SECOND FORM's CARD OF 'laws.FnExactToTitle'. -/
def fnExactToTitleUptoCard : Claim7 := { stood := { row := fnExactToTitleUptoRow, standIns := [], harness := (true, "9a6488adebe255aa576917a3c0cf0c71033882394b6a18f0142b7bacfb7b00d7"), looks := false }, kinds := [], alts := [], laidByText := true, laidKinds := [.pinned], laidTests := true, laidLooks := .later }
def FnExactToTitleUptoCardSaid : Prop := Claim7.holds Tryd.pinned (.plain (OpenSpec.upto fnExactToTitleSpec)) fnExactToTitleUptoCard

/-- THE SECOND FORM's CARD OF 'laws.FnExactToUpper'. -/
def fnExactToUpperUptoCard : Claim7 := { stood := { row := fnExactToUpperUptoRow, standIns := [], harness := (true, "9a6488adebe255aa576917a3c0cf0c71033882394b6a18f0142b7bacfb7b00d7"), looks := false }, kinds := [], alts := [], laidByText := true, laidKinds := [.pinned], laidTests := true, laidLooks := .later }
def FnExactToUpperUptoCardSaid : Prop := Claim7.holds Tryd.pinned (.plain (OpenSpec.upto fnExactToUpperSpec)) fnExactToUpperUptoCard

/-- THE SECOND FORM's CARD OF 'laws.FnToLower'. -/
def fnToLowerUptoCard : Claim7 := { stood := { row := fnToLowerUptoRow, standIns := [], harness := (true, "9a6488adebe255aa576917a3c0cf0c71033882394b6a18f0142b7bacfb7b00d7"), looks := false }, kinds := [], alts := [], laidByText := true, laidKinds := [.pinned], laidTests := true, laidLooks := .later }
def FnToLowerUptoCardSaid : Prop := Claim7.holds Tryd.pinned (.plain (OpenSpec.upto fnToLowerSpec)) fnToLowerUptoCard
end Rows
end Go.Proofs.YtlpdnaifnnfpjaaDoor
