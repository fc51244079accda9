/-
  DERIVED. GIVEN WITH THE SEED: THE CARDS: each row of YtgcgccglamfncaaDoorRows.lean that lists a variable, with what it lists TIED to the program's text (the seventh form; the later family's looks); each row that meets fmt, with fmt's text TOLD by the authors' own Lean function (tested against real Go, not proved from fmt's source: count such statements apart). THE CARD IS WHAT COUNTS. Prove the row's statement (the work); the ties are given (YtgcgccglamfncaaDoorTie.lean); close each card by the builder's one call (the guide's Derived/Test/ToyasCard.lean, 'card_holds'). Laid BY PROGRAM, IN A SANDBOX (cutbox-door.mjs). By AI agents, Wed Nov 11 2026. No macro, syntax, notation, axiom, sorry.
-/
import Derived.Test.YtgcgccglamfncaaDoorRows
import GoSem.ClaimSeven
namespace Go.Proofs.YtgcgccglamfncaaDoor
namespace Rows

/-- THE TIED CARD OF 'laws.FnDecimalParses'. -/
def fnDecimalParsesCard : Claim7 := { stood := { row := fnDecimalParsesRow, standIns := [], harness := (true, "5ed28feb2a2cdf38b4fd78d3bf7e615458d3865226202b8b10adcfd602662991"), looks := true }, kinds := [], alts := [], laidByText := true, laidKinds := [.data, .data, .data, .data, .data, .data, .sentinel, .sentinel, .sentinel], laidTests := true, laidLooks := .later }
def FnDecimalParsesCardSaid : Prop := Claim7.holds Tryd.pinned (.plain (OpenSpec.ofChange fnDecimalParsesSpec)) fnDecimalParsesCard

/-- THE TIED CARD OF 'laws.FnDecimalZeros'. -/
def fnDecimalZerosCard : Claim7 := { stood := { row := fnDecimalZerosRow, standIns := [], harness := (true, "5ed28feb2a2cdf38b4fd78d3bf7e615458d3865226202b8b10adcfd602662991"), looks := true }, kinds := [], alts := [], laidByText := true, laidKinds := [.data, .data, .data, .data, .data, .data, .sentinel, .sentinel, .sentinel], laidTests := true, laidLooks := .later }
def FnDecimalZerosCardSaid : Prop := Claim7.holds Tryd.pinned (.plain (OpenSpec.ofChange fnDecimalZerosSpec)) fnDecimalZerosCard

/-- THE SECOND FORM's CARD OF 'laws.FnDecimalParses'. -/
def fnDecimalParsesUptoCard : Claim7 := { stood := { row := fnDecimalParsesUptoRow, standIns := [], harness := (true, "5ed28feb2a2cdf38b4fd78d3bf7e615458d3865226202b8b10adcfd602662991"), looks := true }, kinds := [], alts := [], laidByText := true, laidKinds := [.data, .data, .data, .data, .data, .data, .sentinel, .sentinel, .sentinel], laidTests := true, laidLooks := .later }
def FnDecimalParsesUptoCardSaid : Prop := Claim7.holds Tryd.pinned (.plain (OpenSpec.upto fnDecimalParsesSpec)) fnDecimalParsesUptoCard

/-- THE SECOND FORM's CARD OF 'laws.FnDecimalZeros'. -/
def fnDecimalZerosUptoCard : Claim7 := { stood := { row := fnDecimalZerosUptoRow, standIns := [], harness := (true, "5ed28feb2a2cdf38b4fd78d3bf7e615458d3865226202b8b10adcfd602662991"), looks := true }, kinds := [], alts := [], laidByText := true, laidKinds := [.data, .data, .data, .data, .data, .data, .sentinel, .sentinel, .sentinel], laidTests := true, laidLooks := .later }
def FnDecimalZerosUptoCardSaid : Prop := Claim7.holds Tryd.pinned (.plain (OpenSpec.upto fnDecimalZerosSpec)) fnDecimalZerosUptoCard
end Rows
end Go.Proofs.YtgcgccglamfncaaDoor
