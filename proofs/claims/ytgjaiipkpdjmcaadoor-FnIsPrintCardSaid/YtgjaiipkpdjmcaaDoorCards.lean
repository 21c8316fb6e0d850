/-
  DERIVED. GIVEN WITH THE SEED: THE CARDS: each row of YtgjaiipkpdjmcaaDoorRows.lean that lists a variable, with what it lists TIED to the program's text (the seventh form; the later family's looks); each row that meets fmt, with fmt's text TOLD by the authors' own Lean function (tested against real Go, not proved from fmt's source: count such statements apart). THE CARD IS WHAT COUNTS. Prove the row's statement (the work); the ties are given (YtgjaiipkpdjmcaaDoorTie.lean); close each card by the builder's one call (the guide's Derived/Test/ToyasCard.lean, 'card_holds'). Laid BY PROGRAM, IN A SANDBOX (cutbox-door.mjs). By AI agents, Wed Nov 11 2026. No macro, syntax, notation, axiom, sorry.
-/
import Derived.Test.YtgjaiipkpdjmcaaDoorRows
import GoSem.ClaimSeven
namespace Go.Proofs.YtgjaiipkpdjmcaaDoor
namespace Rows

/-- THE TIED CARD OF 'laws.FnExactIsPrint'. -/
def fnExactIsPrintCard : Claim7 := { stood := { row := fnExactIsPrintRow, standIns := [], harness := (true, "4ecb69c65761a8ad5ae5ebc97584f12b217edd0abf03be4c6094ba61f36d3418"), looks := false }, kinds := [], alts := [], laidByText := true, laidKinds := [.data], laidTests := true, laidLooks := .later }
def FnExactIsPrintCardSaid : Prop := Claim7.holds Tryd.pinned (.plain (OpenSpec.ofChange fnExactIsPrintSpec)) fnExactIsPrintCard

/-- THE TIED CARD OF 'laws.FnIsPrint'. -/
def fnIsPrintCard : Claim7 := { stood := { row := fnIsPrintRow, standIns := [], harness := (true, "4ecb69c65761a8ad5ae5ebc97584f12b217edd0abf03be4c6094ba61f36d3418"), looks := false }, kinds := [], alts := [], laidByText := true, laidKinds := [.data], laidTests := true, laidLooks := .later }
def FnIsPrintCardSaid : Prop := Claim7.holds Tryd.pinned (.plain (OpenSpec.ofChange fnIsPrintSpec)) fnIsPrintCard

/-- THE SECOND FORM's CARD OF 'laws.FnExactIsPrint'. -/
def fnExactIsPrintUptoCard : Claim7 := { stood := { row := fnExactIsPrintUptoRow, standIns := [], harness := (true, "4ecb69c65761a8ad5ae5ebc97584f12b217edd0abf03be4c6094ba61f36d3418"), looks := false }, kinds := [], alts := [], laidByText := true, laidKinds := [.data], laidTests := true, laidLooks := .later }
def FnExactIsPrintUptoCardSaid : Prop := Claim7.holds Tryd.pinned (.plain (OpenSpec.upto fnExactIsPrintSpec)) fnExactIsPrintUptoCard

/-- THE SECOND FORM's CARD OF 'laws.FnIsPrint'. -/
def fnIsPrintUptoCard : Claim7 := { stood := { row := fnIsPrintUptoRow, standIns := [], harness := (true, "4ecb69c65761a8ad5ae5ebc97584f12b217edd0abf03be4c6094ba61f36d3418"), looks := false }, kinds := [], alts := [], laidByText := true, laidKinds := [.data], laidTests := true, laidLooks := .later }
def FnIsPrintUptoCardSaid : Prop := Claim7.holds Tryd.pinned (.plain (OpenSpec.upto fnIsPrintSpec)) fnIsPrintUptoCard
end Rows
end Go.Proofs.YtgjaiipkpdjmcaaDoor
