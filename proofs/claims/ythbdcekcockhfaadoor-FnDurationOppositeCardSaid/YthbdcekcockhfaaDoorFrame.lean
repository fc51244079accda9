/-
  THE FRAME of the durations' rows that list the package's error.
-/
import Derived.Test.YthbdcekcockhfaaDoorCards
import Derived.Test.YthbdcekcockhfaaDoorTie
import Derived.ProofKit
import Derived.OpenShut
import Derived.ShutString
import Derived.ChangeOld
import Derived.Deep.DeepHandedRow
import Derived.Lib.LaidTab
import Derived.LaidLaws
import Derived.Lay
namespace Go.Proofs.YthbdcekcockhfaaDoor
namespace Frame
open Go.ChangeShapes Go.WideShapes Go.ChangeAt Go.RowKit
open Go.ChangeMaps (open_string shut_string)

theorem own : ownKnob Tryd.prog.godebug = none := by kernel_rfl
theorem laidOut : laidOutB Tryd.prog = true := by kernel_rfl
theorem gErr : Tryd.prog.globalNamed "pub-claviger/pub/cedargo/inner.ErrDuration" = some 0 := by kernel_rfl
theorem gErrType : (Tryd.prog.globals[0]?).map (·.type) = some 38 := by kernel_rfl

/-- what the list gives: the package's error is a value of some type -/
theorem err_of_laid {W : World} (h : laidMetH Tryd.prog Rows.fnDurationParsesRow.laid W) : ∃ T x, W.cell? ⟨0, 0, none⟩ = some (.iface T x) := by
  have h' : laidMet Tryd.prog Rows.fnDurationParsesRow.laid W := h
  obtain ⟨ps, ⟨g, t, cs, f, p, q, hg, ht, hv, hd, _, _⟩, _⟩ := h'
  obtain rfl := Option.some.inj (gErr.symm.trans hg)
  obtain rfl := Option.some.inj (gErrType.symm.trans ht)
  obtain ⟨f', u, v, hcs, _, _⟩ := iface_of_trod Tryd.underlying38 hd
  have := World.var?_cell gErr hv 0
  obtain ⟨l⟩ := cs
  have hl : l = [.iface u v] := hcs
  subst hl
  exact ⟨u, v, by simpa using this⟩

/-- all arguments read behind the call as before, where nothing below the old heap's end has turned -/
theorem trodAll_below {H : Type} {enc : TypeId × Value → H} {W W' : World} (hb : Below W.heap.size W W') :
    ∀ (ts : List TypeId) (vs : List Value) (ds : List (DataW H)) (ps : List MemPlace), (∀ t ∈ ts, Tryd.prog.readableRec t = true ∧ t < Tryd.prog.types.size) →
      DataW.TrodAll enc Tryd.prog W 0 (fun _ => true) true ts vs ds ps → (∀ x ∈ ps, x.block < W.heap.size) →
      DataW.TrodAll enc Tryd.prog W' 0 (fun b => decide (b < W.heap.size)) true ts vs ds ps
  | [], vs, ds, ps, _, h, _ => by
    obtain ⟨rfl, rfl, rfl⟩ := trodAll_nil h
    exact trodAll_mk0
  | t :: ts, vs, ds, ps, ht, h, hlt => by
    obtain ⟨v, vs', d, ds', p, q, rfl, rfl, rfl, h1, h2⟩ := trodAll_cons h
    exact trodAll_cons_mk (Below.trod laidOut (ht t (by simp)).1 (ht t (by simp)).2 h1 hb (fun x hx => hlt x (by simp [hx])))
      (trodAll_below hb ts vs' ds' q (fun t' h' => ht t' (by simp [h'])) h2 (fun x hx => hlt x (by simp [hx])))

theorem laid_met (os : Os) (args : Array Value) : laidMet Tryd.prog Rows.fnDurationParsesRow.laid ((World.laidAll Tryd.prog os Rows.fnDurationParsesRow.laid).forCall (fun _ _ => 0) ⟨#[], args, []⟩).memory :=
  laidMet_laidAll args (by kernel_rfl) (by kernel_rfl)
end Frame

end Go.Proofs.YthbdcekcockhfaaDoor
