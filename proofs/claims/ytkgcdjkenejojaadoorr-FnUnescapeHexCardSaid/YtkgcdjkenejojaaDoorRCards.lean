/-
  DERIVED. GIVEN WITH THE SEED: THE CARDS: each row of YtkgcdjkenejojaaDoorRRows.lean that lists a variable, with what it lists TIED to the program's text (the seventh form; the later family's looks); each row that meets fmt, with fmt's text TOLD by the authors' own Lean function (tested against real Go, not proved from fmt's source: count such statements apart). THE CARD IS WHAT COUNTS. Prove the row's statement (the work); the ties are given (YtkgcdjkenejojaaDoorRTie.lean); close each card by the builder's one call (the guide's Derived/Test/ToyasCard.lean, 'card_holds'). Laid BY PROGRAM, IN A SANDBOX (cutbox-door.mjs). By AI agents, Wed Nov 11 2026. No macro, syntax, notation, axiom, sorry.
-/
import Derived.Test.YtkgcdjkenejojaaDoorRRows
import GoSem.ClaimSeven
namespace Go.Proofs.YtkgcdjkenejojaaDoorR
namespace Rows

/-- THE TIED CARD OF 'laws.FnUnescapeHex'. -/
def fnUnescapeHexCard : Claim7 := { stood := { row := fnUnescapeHexRow, standIns := [], harness := (true, "0e8567b8c4c7c7ee417fdb3731ac14bd89ef3388c83d26e105d0bdd5cfc4a720"), looks := false }, kinds := [], alts := [], laidByText := true, laidKinds := [.data, .pinned], laidTests := true, laidLooks := .later }
def FnUnescapeHexCardSaid : Prop := Claim7.holds Tryd.pinned (.plain (OpenSpec.ofChange fnUnescapeHexSpec)) fnUnescapeHexCard

/-- THE SECOND FORM's CARD OF 'laws.FnUnescapeHex'. -/
def fnUnescapeHexUptoCard : Claim7 := { stood := { row := fnUnescapeHexUptoRow, standIns := [], harness := (true, "0e8567b8c4c7c7ee417fdb3731ac14bd89ef3388c83d26e105d0bdd5cfc4a720"), looks := false }, kinds := [], alts := [], laidByText := true, laidKinds := [.data, .pinned], laidTests := true, laidLooks := .later }
def FnUnescapeHexUptoCardSaid : Prop := Claim7.holds Tryd.pinned (.plain (OpenSpec.upto fnUnescapeHexSpec)) fnUnescapeHexUptoCard
end Rows
end Go.Proofs.YtkgcdjkenejojaaDoorR
