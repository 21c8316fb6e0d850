/-
  DERIVED. GIVEN WITH THE SEED: THE CARDS: each row of YtkgammnojgngfaaDoorRows.lean that lists a variable, with what it lists TIED to the program's text (the seventh form; the later family's looks); each row that meets fmt, with fmt's text TOLD by the authors' own Lean function (tested against real Go, not proved from fmt's source: count such statements apart). THE CARD IS WHAT COUNTS. Prove the row's statement (the work); the ties are given (YtkgammnojgngfaaDoorTie.lean); close each card by the builder's one call (the guide's Derived/Test/ToyasCard.lean, 'card_holds'). Laid BY PROGRAM, IN A SANDBOX (cutbox-door.mjs). By AI agents, Wed Nov 11 2026. No macro, syntax, notation, axiom, sorry.
-/
import Derived.Test.YtkgammnojgngfaaDoorRows
import GoSem.ClaimSeven
namespace Go.Proofs.YtkgammnojgngfaaDoor
namespace Rows

/-- THE TIED CARD OF 'laws.FnDigitTen'. -/
def fnDigitTenCard : Claim7 := { stood := { row := fnDigitTenRow, standIns := [], harness := (true, "fd408c3522d3c1247b81b6b3d21bf47a2c0848718801b39cf290464b3cfb01be"), looks := false }, kinds := [], alts := [], laidByText := true, laidKinds := [.pinned], laidTests := true, laidLooks := .later }
def FnDigitTenCardSaid : Prop := Claim7.holds Tryd.pinned (.plain (OpenSpec.ofChange fnDigitTenSpec)) fnDigitTenCard

/-- THE TIED CARD OF 'laws.FnExactIsDigit'. -/
def fnExactIsDigitCard : Claim7 := { stood := { row := fnExactIsDigitRow, standIns := [], harness := (true, "fd408c3522d3c1247b81b6b3d21bf47a2c0848718801b39cf290464b3cfb01be"), looks := false }, kinds := [], alts := [], laidByText := true, laidKinds := [.pinned], laidTests := true, laidLooks := .later }
def FnExactIsDigitCardSaid : Prop := Claim7.holds Tryd.pinned (.plain (OpenSpec.ofChange fnExactIsDigitSpec)) fnExactIsDigitCard

/-- THE TIED CARD OF 'laws.FnExactIsLetter'. -/
def fnExactIsLetterCard : Claim7 := { stood := { row := fnExactIsLetterRow, standIns := [], harness := (true, "fd408c3522d3c1247b81b6b3d21bf47a2c0848718801b39cf290464b3cfb01be"), looks := false }, kinds := [], alts := [], laidByText := true, laidKinds := [.data, .pinned], laidTests := true, laidLooks := .later }
def FnExactIsLetterCardSaid : Prop := Claim7.holds Tryd.pinned (.plain (OpenSpec.ofChange fnExactIsLetterSpec)) fnExactIsLetterCard

/-- THE TIED CARD OF 'laws.FnIsDigit'. -/
def fnIsDigitCard : Claim7 := { stood := { row := fnIsDigitRow, standIns := [], harness := (true, "fd408c3522d3c1247b81b6b3d21bf47a2c0848718801b39cf290464b3cfb01be"), looks := false }, kinds := [], alts := [], laidByText := true, laidKinds := [.pinned], laidTests := true, laidLooks := .later }
def FnIsDigitCardSaid : Prop := Claim7.holds Tryd.pinned (.plain (OpenSpec.ofChange fnIsDigitSpec)) fnIsDigitCard

/-- THE TIED CARD OF 'laws.FnIsLetter'. -/
def fnIsLetterCard : Claim7 := { stood := { row := fnIsLetterRow, standIns := [], harness := (true, "fd408c3522d3c1247b81b6b3d21bf47a2c0848718801b39cf290464b3cfb01be"), looks := false }, kinds := [], alts := [], laidByText := true, laidKinds := [.data, .pinned], laidTests := true, laidLooks := .later }
def FnIsLetterCardSaid : Prop := Claim7.holds Tryd.pinned (.plain (OpenSpec.ofChange fnIsLetterSpec)) fnIsLetterCard

/-- THE TIED CARD OF 'laws.FnExactIsUpper'. -/
def fnExactIsUpperCard : Claim7 := { stood := { row := fnExactIsUpperRow, standIns := [], harness := (true, "fd408c3522d3c1247b81b6b3d21bf47a2c0848718801b39cf290464b3cfb01be"), looks := false }, kinds := [], alts := [], laidByText := true, laidKinds := [.data, .pinned], laidTests := true, laidLooks := .later }
def FnExactIsUpperCardSaid : Prop := Claim7.holds Tryd.pinned (.plain (OpenSpec.ofChange fnExactIsUpperSpec)) fnExactIsUpperCard

/-- THE TIED CARD OF 'laws.FnIsUpper'. -/
def fnIsUpperCard : Claim7 := { stood := { row := fnIsUpperRow, standIns := [], harness := (true, "fd408c3522d3c1247b81b6b3d21bf47a2c0848718801b39cf290464b3cfb01be"), looks := false }, kinds := [], alts := [], laidByText := true, laidKinds := [.data, .pinned], laidTests := true, laidLooks := .later }
def FnIsUpperCardSaid : Prop := Claim7.holds Tryd.pinned (.plain (OpenSpec.ofChange fnIsUpperSpec)) fnIsUpperCard

/-- THE TIED CARD OF 'laws.FnExactIsSpace'. -/
def fnExactIsSpaceCard : Claim7 := { stood := { row := fnExactIsSpaceRow, standIns := [], harness := (true, "fd408c3522d3c1247b81b6b3d21bf47a2c0848718801b39cf290464b3cfb01be"), looks := false }, kinds := [], alts := [], laidByText := true, laidKinds := [.listed], laidTests := true, laidLooks := .later }
def FnExactIsSpaceCardSaid : Prop := Claim7.holds Tryd.pinned (.plain (OpenSpec.ofChange fnExactIsSpaceSpec)) fnExactIsSpaceCard

/-- THE TIED CARD OF 'laws.FnIsSpace'. -/
def fnIsSpaceCard : Claim7 := { stood := { row := fnIsSpaceRow, standIns := [], harness := (true, "fd408c3522d3c1247b81b6b3d21bf47a2c0848718801b39cf290464b3cfb01be"), looks := false }, kinds := [], alts := [], laidByText := true, laidKinds := [.listed], laidTests := true, laidLooks := .later }
def FnIsSpaceCardSaid : Prop := Claim7.holds Tryd.pinned (.plain (OpenSpec.ofChange fnIsSpaceSpec)) fnIsSpaceCard

/-- THE TIED CARD OF 'laws.FnUpperLetter'. -/
def fnUpperLetterCard : Claim7 := { stood := { row := fnUpperLetterRow, standIns := [], harness := (true, "fd408c3522d3c1247b81b6b3d21bf47a2c0848718801b39cf290464b3cfb01be"), looks := false }, kinds := [], alts := [], laidByText := true, laidKinds := [.data, .pinned, .pinned], laidTests := true, laidLooks := .later }
def FnUpperLetterCardSaid : Prop := Claim7.holds Tryd.pinned (.plain (OpenSpec.ofChange fnUpperLetterSpec)) fnUpperLetterCard

/-- THE TIED CARD OF 'laws.FnUpperUpper'. -/
def fnUpperUpperCard : Claim7 := { stood := { row := fnUpperUpperRow, standIns := [], harness := (true, "fd408c3522d3c1247b81b6b3d21bf47a2c0848718801b39cf290464b3cfb01be"), looks := false }, kinds := [], alts := [], laidByText := true, laidKinds := [.data, .pinned, .pinned], laidTests := true, laidLooks := .later }
def FnUpperUpperCardSaid : Prop := Claim7.holds Tryd.pinned (.plain (OpenSpec.ofChange fnUpperUpperSpec)) fnUpperUpperCard

/-- THE SECOND FORM's CARD OF 'laws.FnDigitTen'. -/
def fnDigitTenUptoCard : Claim7 := { stood := { row := fnDigitTenUptoRow, standIns := [], harness := (true, "fd408c3522d3c1247b81b6b3d21bf47a2c0848718801b39cf290464b3cfb01be"), looks := false }, kinds := [], alts := [], laidByText := true, laidKinds := [.pinned], laidTests := true, laidLooks := .later }
def FnDigitTenUptoCardSaid : Prop := Claim7.holds Tryd.pinned (.plain (OpenSpec.upto fnDigitTenSpec)) fnDigitTenUptoCard

/-- THE SECOND FORM's CARD OF 'laws.FnExactIsDigit'. -/
def fnExactIsDigitUptoCard : Claim7 := { stood := { row := fnExactIsDigitUptoRow, standIns := [], harness := (true, "fd408c3522d3c1247b81b6b3d21bf47a2c0848718801b39cf290464b3cfb01be"), looks := false }, kinds := [], alts := [], laidByText := true, laidKinds := [.pinned], laidTests := true, laidLooks := .later }
def FnExactIsDigitUptoCardSaid : Prop := Claim7.holds Tryd.pinned (.plain (OpenSpec.upto fnExactIsDigitSpec)) fnExactIsDigitUptoCard

/-- THE SECOND FORM's CARD OF 'laws.FnExactIsLetter'. -/
def fnExactIsLetterUptoCard : Claim7 := { stood := { row := fnExactIsLetterUptoRow, standIns := [], harness := (true, "fd408c3522d3c1247b81b6b3d21bf47a2c0848718801b39cf290464b3cfb01be"), looks := false }, kinds := [], alts := [], laidByText := true, laidKinds := [.data, .pinned], laidTests := true, laidLooks := .later }
def FnExactIsLetterUptoCardSaid : Prop := Claim7.holds Tryd.pinned (.plain (OpenSpec.upto fnExactIsLetterSpec)) fnExactIsLetterUptoCard

/-- THE SECOND FORM's CARD OF 'laws.FnIsDigit'. -/
def fnIsDigitUptoCard : Claim7 := { stood := { row := fnIsDigitUptoRow, standIns := [], harness := (true, "fd408c3522d3c1247b81b6b3d21bf47a2c0848718801b39cf290464b3cfb01be"), looks := false }, kinds := [], alts := [], laidByText := true, laidKinds := [.pinned], laidTests := true, laidLooks := .later }
def FnIsDigitUptoCardSaid : Prop := Claim7.holds Tryd.pinned (.plain (OpenSpec.upto fnIsDigitSpec)) fnIsDigitUptoCard

/-- THE SECOND FORM's CARD OF 'laws.FnIsLetter'. -/
def fnIsLetterUptoCard : Claim7 := { stood := { row := fnIsLetterUptoRow, standIns := [], harness := (true, "fd408c3522d3c1247b81b6b3d21bf47a2c0848718801b39cf290464b3cfb01be"), looks := false }, kinds := [], alts := [], laidByText := true, laidKinds := [.data, .pinned], laidTests := true, laidLooks := .later }
def FnIsLetterUptoCardSaid : Prop := Claim7.holds Tryd.pinned (.plain (OpenSpec.upto fnIsLetterSpec)) fnIsLetterUptoCard

/-- THE SECOND FORM's CARD OF 'laws.FnExactIsUpper'. -/
def fnExactIsUpperUptoCard : Claim7 := { stood := { row := fnExactIsUpperUptoRow, standIns := [], harness := (true, "fd408c3522d3c1247b81b6b3d21bf47a2c0848718801b39cf290464b3cfb01be"), looks := false }, kinds := [], alts := [], laidByText := true, laidKinds := [.data, .pinned], laidTests := true, laidLooks := .later }
def FnExactIsUpperUptoCardSaid : Prop := Claim7.holds Tryd.pinned (.plain (OpenSpec.upto fnExactIsUpperSpec)) fnExactIsUpperUptoCard

/-- THE SECOND FORM's CARD OF 'laws.FnIsUpper'. -/
def fnIsUpperUptoCard : Claim7 := { stood := { row := fnIsUpperUptoRow, standIns := [], harness := (true, "fd408c3522d3c1247b81b6b3d21bf47a2c0848718801b39cf290464b3cfb01be"), looks := false }, kinds := [], alts := [], laidByText := true, laidKinds := [.data, .pinned], laidTests := true, laidLooks := .later }
def FnIsUpperUptoCardSaid : Prop := Claim7.holds Tryd.pinned (.plain (OpenSpec.upto fnIsUpperSpec)) fnIsUpperUptoCard

/-- THE SECOND FORM's CARD OF 'laws.FnExactIsSpace'. -/
def fnExactIsSpaceUptoCard : Claim7 := { stood := { row := fnExactIsSpaceUptoRow, standIns := [], harness := (true, "fd408c3522d3c1247b81b6b3d21bf47a2c0848718801b39cf290464b3cfb01be"), looks := false }, kinds := [], alts := [], laidByText := true, laidKinds := [.listed], laidTests := true, laidLooks := .later }
def FnExactIsSpaceUptoCardSaid : Prop := Claim7.holds Tryd.pinned (.plain (OpenSpec.upto fnExactIsSpaceSpec)) fnExactIsSpaceUptoCard

/-- THE SECOND FORM's CARD OF 'laws.FnIsSpace'. -/
def fnIsSpaceUptoCard : Claim7 := { stood := { row := fnIsSpaceUptoRow, standIns := [], harness := (true, "fd408c3522d3c1247b81b6b3d21bf47a2c0848718801b39cf290464b3cfb01be"), looks := false }, kinds := [], alts := [], laidByText := true, laidKinds := [.listed], laidTests := true, laidLooks := .later }
def FnIsSpaceUptoCardSaid : Prop := Claim7.holds Tryd.pinned (.plain (OpenSpec.upto fnIsSpaceSpec)) fnIsSpaceUptoCard

/-- THE SECOND FORM's CARD OF 'laws.FnUpperLetter'. -/
def fnUpperLetterUptoCard : Claim7 := { stood := { row := fnUpperLetterUptoRow, standIns := [], harness := (true, "fd408c3522d3c1247b81b6b3d21bf47a2c0848718801b39cf290464b3cfb01be"), looks := false }, kinds := [], alts := [], laidByText := true, laidKinds := [.data, .pinned, .pinned], laidTests := true, laidLooks := .later }
def FnUpperLetterUptoCardSaid : Prop := Claim7.holds Tryd.pinned (.plain (OpenSpec.upto fnUpperLetterSpec)) fnUpperLetterUptoCard

/-- THE SECOND FORM's CARD OF 'laws.FnUpperUpper'. -/
def fnUpperUpperUptoCard : Claim7 := { stood := { row := fnUpperUpperUptoRow, standIns := [], harness := (true, "fd408c3522d3c1247b81b6b3d21bf47a2c0848718801b39cf290464b3cfb01be"), looks := false }, kinds := [], alts := [], laidByText := true, laidKinds := [.data, .pinned, .pinned], laidTests := true, laidLooks := .later }
def FnUpperUpperUptoCardSaid : Prop := Claim7.holds Tryd.pinned (.plain (OpenSpec.upto fnUpperUpperSpec)) fnUpperUpperUptoCard
end Rows
end Go.Proofs.YtkgammnojgngfaaDoor
