/-
  DERIVED. GIVEN WITH THE SEED: THE CARDS: each row of YtmfolfjmajmamaaDoorRows.lean that lists a variable, with what it lists TIED to the program's text (the seventh form; the later family's looks); each row that meets fmt, with fmt's text TOLD by the authors' own Lean function (tested against real Go, not proved from fmt's source: count such statements apart). THE CARD IS WHAT COUNTS. Prove the row's statement (the work); the ties are given (YtmfolfjmajmamaaDoorTie.lean); close each card by the builder's one call (the guide's Derived/Test/ToyasCard.lean, 'card_holds'). Laid BY PROGRAM, IN A SANDBOX (cutbox-door.mjs). By AI agents, Wed Nov 11 2026. No macro, syntax, notation, axiom, sorry.
-/
import Derived.Test.YtmfolfjmajmamaaDoorRows
import GoSem.ClaimSeven
namespace Go.Proofs.YtmfolfjmajmamaaDoor
namespace Rows

/-- THE TIED CARD OF 'laws.FnUIDStepsList'. -/
def fnUIDStepsListCard : Claim7 := { stood := { row := fnUIDStepsListRow, standIns := [], harness := (true, "adb214c7147e0cb86010bfbc8fbc158cf933a28ee43ce82cdd579910cd722a6b"), looks := false }, kinds := [], alts := [], laidByText := true, laidKinds := [.data], laidTests := true, laidLooks := .later }
def FnUIDStepsListCardSaid : Prop := Claim7.holds Tryd.pinned (.plain (OpenSpec.ofChange fnUIDStepsListSpec)) fnUIDStepsListCard

/-- THE TIED CARD OF 'laws.FnUIDsAlike'. -/
def fnUIDsAlikeCard : Claim7 := { stood := { row := fnUIDsAlikeRow, standIns := [], harness := (true, "adb214c7147e0cb86010bfbc8fbc158cf933a28ee43ce82cdd579910cd722a6b"), looks := false }, kinds := [], alts := [], laidByText := true, laidKinds := [.data], laidTests := true, laidLooks := .later }
def FnUIDsAlikeCardSaid : Prop := Claim7.holds Tryd.pinned (.plain (OpenSpec.ofChange fnUIDsAlikeSpec)) fnUIDsAlikeCard

/-- THE SECOND FORM's CARD OF 'laws.FnUIDStepsList'. -/
def fnUIDStepsListUptoCard : Claim7 := { stood := { row := fnUIDStepsListUptoRow, standIns := [], harness := (true, "adb214c7147e0cb86010bfbc8fbc158cf933a28ee43ce82cdd579910cd722a6b"), looks := false }, kinds := [], alts := [], laidByText := true, laidKinds := [.data], laidTests := true, laidLooks := .later }
def FnUIDStepsListUptoCardSaid : Prop := Claim7.holds Tryd.pinned (.plain (OpenSpec.upto fnUIDStepsListSpec)) fnUIDStepsListUptoCard

/-- THE SECOND FORM's CARD OF 'laws.FnUIDsAlike'. -/
def fnUIDsAlikeUptoCard : Claim7 := { stood := { row := fnUIDsAlikeUptoRow, standIns := [], harness := (true, "adb214c7147e0cb86010bfbc8fbc158cf933a28ee43ce82cdd579910cd722a6b"), looks := false }, kinds := [], alts := [], laidByText := true, laidKinds := [.data], laidTests := true, laidLooks := .later }
def FnUIDsAlikeUptoCardSaid : Prop := Claim7.holds Tryd.pinned (.plain (OpenSpec.upto fnUIDsAlikeSpec)) fnUIDsAlikeUptoCard
end Rows
end Go.Proofs.YtmfolfjmajmamaaDoor
