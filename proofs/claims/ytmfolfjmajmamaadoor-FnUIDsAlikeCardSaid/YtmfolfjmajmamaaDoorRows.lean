/-
  NARROWER THAN 'FOR EVERY INPUT', by the rows' own cells (each row's printed sentence says how): FnUIDStepsList: laid · FnUIDsAlike: laid.
  DERIVED. THE GIVEN ROWS OF THIS SEAT. 2 by the template 'for every input the law returns true; each argument reads behind the call as it read before'; 0 by the template 'total and deterministic' (their statements: YtmfolfjmajmamaaDoorTotals.lean).
  GIVEN WITH THE SEED: the statements are not yours to turn. If you find one false, say at which input.
  Laid BY PROGRAM, IN A SANDBOX (cutbox-rows.mjs): the forced cells as the released guide's own fill.sh prints them over the translation e981994e9b1a46c2… (all of the seat's roots in one cut). By AI agents, Wed Nov 11 2026. No macro, syntax, notation, axiom, sorry.
-/
import Derived.Test.YtmfolfjmajmamaaDoorChecked
import GoSem.Claim
import GoSem.ClaimJoined
import GoSem.ClaimMapViews
import Derived.JoinedTies
import Derived.KernelRfl
namespace Go.Proofs.YtmfolfjmajmamaaDoor
/- THE CELL 'sum', in the pinned program and in every row, IS THE sha256 OF THE DUMP (.gsa) THAT YtmfolfjmajmamaaDoorProg.lean LOADS. Nothing in Lean hashes anything: it is a label: what it is worth is what the hold of that sum in a sandbox is worth. -/
noncomputable def Tryd.pinned : Pinned := { name := "ytmfolfjmajmamaadoor", sum := "e981994e9b1a46c23d9b2767613616c92ba1f143cbaa256d1c10fc9cb483574d", checked := Tryd.checked }
namespace Rows
def none {H : Type} : Left H := { results := [], args := [] }

/- WHAT THE LISTED PACKAGE-LEVEL VARIABLES READ AS WHEN THE CALL BEGINS. Each datum BY PROGRAM (the guide's laid-datum.mjs) off the statement by which the dump's own 'gosem.cut.vars' lays the variable. In a bare row this is a premise. The card (YtmfolfjmajmamaaDoorCards.lean) ties it to the program's text. -/
def laid_pub_claviger_pub_cedargo_inner_mapset_peppercorn {H : Type} : DataW H := .agg []

/-- 'laws.FnUIDStepsList': WHATEVER THE INPUT: true; the input reads as it did. -/
def fnUIDStepsListSpec : ChangeSpec := { name := "fnUIDStepsList", fn := fun _ => fun
  | [d] => { results := [.lit (.bool true)], args := [d] }
  | _ => none }
def fnUIDStepsListRow : OpenClaim := { program := "ytmfolfjmajmamaadoor", sum := "e981994e9b1a46c23d9b2767613616c92ba1f143cbaa256d1c10fc9cb483574d", func := "pub-claviger/laws.FnUIDStepsList", spec := "fnUIDStepsList", named := ["pub-claviger/pub/cedargo/inner/mapset.peppercorn"], plainKeys := false, apart := false, laid := [("pub-claviger/pub/cedargo/inner/mapset.peppercorn", laid_pub_claviger_pub_cedargo_inner_mapset_peppercorn)] }
def FnUIDStepsListSaid : Prop := fnUIDStepsListRow.holds Tryd.pinned (OpenSpec.ofChange fnUIDStepsListSpec)

/-- ITS FALSE NEIGHBOUR: 'it returns false'. Refute it at one input. -/
def fnUIDStepsListWrong : ChangeSpec := { name := "fnUIDStepsList", fn := fun _ => fun
  | [d] => { results := [.lit (.bool false)], args := [d] }
  | _ => none }
def FnUIDStepsListWrongFalsely : Prop := fnUIDStepsListRow.holds Tryd.pinned (OpenSpec.ofChange fnUIDStepsListWrong)

/-- 'laws.FnUIDsAlike': WHATEVER THE INPUT: true; the input reads as it did. -/
def fnUIDsAlikeSpec : ChangeSpec := { name := "fnUIDsAlike", fn := fun _ => fun
  | [d1, d2] => { results := [.lit (.bool true)], args := [d1, d2] }
  | _ => none }
def fnUIDsAlikeRow : OpenClaim := { program := "ytmfolfjmajmamaadoor", sum := "e981994e9b1a46c23d9b2767613616c92ba1f143cbaa256d1c10fc9cb483574d", func := "pub-claviger/laws.FnUIDsAlike", spec := "fnUIDsAlike", unfollowed := true, recurses := true, named := ["pub-claviger/pub/cedargo/inner/mapset.peppercorn"], plainKeys := false, apart := false, laid := [("pub-claviger/pub/cedargo/inner/mapset.peppercorn", laid_pub_claviger_pub_cedargo_inner_mapset_peppercorn)] }
def FnUIDsAlikeSaid : Prop := fnUIDsAlikeRow.holds Tryd.pinned (OpenSpec.ofChange fnUIDsAlikeSpec)

/-- ITS FALSE NEIGHBOUR: 'it returns false'. Refute it at one input. -/
def fnUIDsAlikeWrong : ChangeSpec := { name := "fnUIDsAlike", fn := fun _ => fun
  | [d1, d2] => { results := [.lit (.bool false)], args := [d1, d2] }
  | _ => none }
def FnUIDsAlikeWrongFalsely : Prop := fnUIDsAlikeRow.holds Tryd.pinned (OpenSpec.ofChange fnUIDsAlikeWrong)

/- THE SECOND FORM. 'bulk': how many values and letters a reading holds, each counted each time it is reached (what is shared counts as often as it is met; a slice's spare places count too). A statement '..UptoSaid' is the law's where the arguments, and the package variables that the reading takes, are together of bulk at most 1048576: NARROWER than '..Said'. Prove '..Said' where nothing that the law and all that it calls make is longer than what came in: it says more and counts as full. Else prove '..UptoSaid'. A law counts once. -/
mutual
def uptoBulk {H : Type} : DataW H → Nat
  | .lit (.string bytes) => bytes.length + 1
  | .lit _ => 1
  | .nil => 1
  | .ptr d => uptoBulk d + 1
  | .slice elems spare => uptoBulkAll elems + uptoBulkAll spare + 1
  | .agg parts => uptoBulkAll parts + 1
  | .iface _ d => uptoBulk d + 1
  | .map entries => uptoBulkEntries entries + 1
  | .held _ => 1
def uptoBulkAll {H : Type} : List (DataW H) → Nat
  | [] => 0
  | d :: r => uptoBulk d + uptoBulkAll r
def uptoBulkEntries {H : Type} : List (Lit × DataW H) → Nat
  | [] => 0
  | x :: r => uptoBulkEntry x + uptoBulkEntries r
def uptoBulkEntry {H : Type} : Lit × DataW H → Nat
  | (.string bytes, d) => bytes.length + uptoBulk d + 1
  | (_, d) => uptoBulk d + 1
 end
def uptoSmall : (H : Type) → List (DataW H) → Bool := fun _ ds => decide (uptoBulkAll ds ≤ 1048576)
def OpenSpec.upto (s : _root_.Go.ChangeSpec) : _root_.Go.OpenSpec := { _root_.Go.OpenSpec.ofChange s with cond := some uptoSmall }

/-- 'laws.FnUIDStepsList', WHERE WHAT IT READS IS OF BULK AT MOST 1048576: true; the input reads as it did. -/
def fnUIDStepsListUptoRow : OpenClaim := { program := "ytmfolfjmajmamaadoor", sum := "e981994e9b1a46c23d9b2767613616c92ba1f143cbaa256d1c10fc9cb483574d", func := "pub-claviger/laws.FnUIDStepsList", spec := "fnUIDStepsList", named := ["pub-claviger/pub/cedargo/inner/mapset.peppercorn"], plainKeys := false, apart := false, laid := [("pub-claviger/pub/cedargo/inner/mapset.peppercorn", laid_pub_claviger_pub_cedargo_inner_mapset_peppercorn)], narrowed := true }
def FnUIDStepsListUptoSaid : Prop := fnUIDStepsListUptoRow.holds Tryd.pinned (OpenSpec.upto fnUIDStepsListSpec)

/-- 'laws.FnUIDsAlike', WHERE WHAT IT READS IS OF BULK AT MOST 1048576: true; the input reads as it did. -/
def fnUIDsAlikeUptoRow : OpenClaim := { program := "ytmfolfjmajmamaadoor", sum := "e981994e9b1a46c23d9b2767613616c92ba1f143cbaa256d1c10fc9cb483574d", func := "pub-claviger/laws.FnUIDsAlike", spec := "fnUIDsAlike", unfollowed := true, recurses := true, named := ["pub-claviger/pub/cedargo/inner/mapset.peppercorn"], plainKeys := false, apart := false, laid := [("pub-claviger/pub/cedargo/inner/mapset.peppercorn", laid_pub_claviger_pub_cedargo_inner_mapset_peppercorn)], narrowed := true }
def FnUIDsAlikeUptoSaid : Prop := fnUIDsAlikeUptoRow.holds Tryd.pinned (OpenSpec.upto fnUIDsAlikeSpec)

end Rows
end Go.Proofs.YtmfolfjmajmamaaDoor
