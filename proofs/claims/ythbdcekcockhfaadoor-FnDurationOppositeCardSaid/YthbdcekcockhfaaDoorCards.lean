/-
  DERIVED. GIVEN WITH THE SEED: THE CARDS: each row of YthbdcekcockhfaaDoorRows.lean that lists a variable, with what it lists TIED to the program's text (the seventh form; the later family's looks); each row that meets fmt, with fmt's text TOLD by the authors' own Lean function (tested against real Go, not proved from fmt's source: count such statements apart). THE CARD IS WHAT COUNTS. Prove the row's statement (the work); the ties are given (YthbdcekcockhfaaDoorTie.lean); close each card by the builder's one call (the guide's Derived/Test/ToyasCard.lean, 'card_holds'). Laid BY PROGRAM, IN A SANDBOX (cutbox-door.mjs). By AI agents, Wed Nov 11 2026. No macro, syntax, notation, axiom, sorry.
-/
import Derived.Test.YthbdcekcockhfaaDoorRows
import GoSem.ClaimSeven
namespace Go.Proofs.YthbdcekcockhfaaDoor
namespace Rows

/-- THE TIED CARD OF 'laws.FnDurationOrder'. -/
def fnDurationOrderCard : Claim7 := { stood := { row := fnDurationOrderRow, standIns := [], harness := (true, "d3fa29de195294601d46756828c026d00242b62fbbbd30dc870d466403b76b20"), looks := false }, kinds := [], alts := [], laidByText := true, laidKinds := [.sentinel], laidTests := true, laidLooks := .later }
def FnDurationOrderCardSaid : Prop := Claim7.holds Tryd.pinned (.plain (OpenSpec.ofChange fnDurationOrderSpec)) fnDurationOrderCard

/-- THE TIED CARD OF 'laws.FnDurationParses'. -/
def fnDurationParsesCard : Claim7 := { stood := { row := fnDurationParsesRow, standIns := [], harness := (true, "d3fa29de195294601d46756828c026d00242b62fbbbd30dc870d466403b76b20"), looks := false }, kinds := [], alts := [], laidByText := true, laidKinds := [.sentinel], laidTests := true, laidLooks := .later }
def FnDurationParsesCardSaid : Prop := Claim7.holds Tryd.pinned (.plain (OpenSpec.ofChange fnDurationParsesSpec)) fnDurationParsesCard

/-- THE TIED CARD OF 'laws.FnDurationOpposite'. -/
def fnDurationOppositeCard : Claim7 := { stood := { row := fnDurationOppositeRow, standIns := [], harness := (true, "d3fa29de195294601d46756828c026d00242b62fbbbd30dc870d466403b76b20"), looks := false }, kinds := [], alts := [], laidByText := true, laidKinds := [.data, .data, .data, .sentinel], laidTests := true, laidLooks := .later }
def FnDurationOppositeCardSaid : Prop := Claim7.holds Tryd.pinned (.plain (OpenSpec.ofChange fnDurationOppositeSpec)) fnDurationOppositeCard

/-- THE SECOND FORM's CARD OF 'laws.FnDurationOrder'. -/
def fnDurationOrderUptoCard : Claim7 := { stood := { row := fnDurationOrderUptoRow, standIns := [], harness := (true, "d3fa29de195294601d46756828c026d00242b62fbbbd30dc870d466403b76b20"), looks := false }, kinds := [], alts := [], laidByText := true, laidKinds := [.sentinel], laidTests := true, laidLooks := .later }
def FnDurationOrderUptoCardSaid : Prop := Claim7.holds Tryd.pinned (.plain (OpenSpec.upto fnDurationOrderSpec)) fnDurationOrderUptoCard

/-- THE SECOND FORM's CARD OF 'laws.FnDurationParses'. -/
def fnDurationParsesUptoCard : Claim7 := { stood := { row := fnDurationParsesUptoRow, standIns := [], harness := (true, "d3fa29de195294601d46756828c026d00242b62fbbbd30dc870d466403b76b20"), looks := false }, kinds := [], alts := [], laidByText := true, laidKinds := [.sentinel], laidTests := true, laidLooks := .later }
def FnDurationParsesUptoCardSaid : Prop := Claim7.holds Tryd.pinned (.plain (OpenSpec.upto fnDurationParsesSpec)) fnDurationParsesUptoCard

/-- THE SECOND FORM's CARD OF 'laws.FnDurationOpposite'. -/
def fnDurationOppositeUptoCard : Claim7 := { stood := { row := fnDurationOppositeUptoRow, standIns := [], harness := (true, "d3fa29de195294601d46756828c026d00242b62fbbbd30dc870d466403b76b20"), looks := false }, kinds := [], alts := [], laidByText := true, laidKinds := [.data, .data, .data, .sentinel], laidTests := true, laidLooks := .later }
def FnDurationOppositeUptoCardSaid : Prop := Claim7.holds Tryd.pinned (.plain (OpenSpec.upto fnDurationOppositeSpec)) fnDurationOppositeUptoCard
end Rows
end Go.Proofs.YthbdcekcockhfaaDoor
