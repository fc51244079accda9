/-
  FnDurationParses: for every text the law returns true; what came in reads as it did. The row lists the package's error; its card.
-/
import Derived.Test.YthbdcekcockhfaaDoorG
import Derived.Test.YthbdcekcockhfaaDoorCards
import Derived.Test.YthbdcekcockhfaaDoorTie
import Derived.ProofKit
import Derived.OpenShut
import Derived.ShutString
import Derived.ChangeOld
import Derived.Deep.DeepHandedRow
import Derived.Lib.LaidTab
import Derived.LaidLaws
import Derived.Lay
namespace Go.Proofs.YthbdcekcockhfaaDoor
namespace Frame
open Go.ChangeShapes Go.WideShapes Go.ChangeAt Go.RowKit
open Go.ChangeMaps (open_string shut_string)

theorem own : ownKnob Tryd.prog.godebug = none := by kernel_rfl
theorem laidOut : laidOutB Tryd.prog = true := by kernel_rfl
theorem gErr : Tryd.prog.globalNamed "pub-claviger/pub/cedargo/inner.ErrDuration" = some 0 := by kernel_rfl
theorem gErrType : (Tryd.prog.globals[0]?).map (·.type) = some 38 := by kernel_rfl

/-- what the list gives: the package's error is a value of some type -/
theorem err_of_laid {W : World} (h : laidMetH Tryd.prog Rows.fnDurationParsesRow.laid W) : ∃ T x, W.cell? ⟨0, 0, none⟩ = some (.iface T x) := by
  have h' : laidMet Tryd.prog Rows.fnDurationParsesRow.laid W := h
  obtain ⟨ps, ⟨g, t, cs, f, p, q, hg, ht, hv, hd, _, _⟩, _⟩ := h'
  obtain rfl := Option.some.inj (gErr.symm.trans hg)
  obtain rfl := Option.some.inj (gErrType.symm.trans ht)
  obtain ⟨f', u, v, hcs, _, _⟩ := iface_of_trod Tryd.underlying38 hd
  have := World.var?_cell gErr hv 0
  obtain ⟨l⟩ := cs
  have hl : l = [.iface u v] := hcs
  subst hl
  exact ⟨u, v, by simpa using this⟩

/-- all arguments read behind the call as before, where nothing below the old heap's end has turned -/
theorem trodAll_below {H : Type} {enc : TypeId × Value → H} {W W' : World} (hb : Below W.heap.size W W') :
    ∀ (ts : List TypeId) (vs : List Value) (ds : List (DataW H)) (ps : List MemPlace), (∀ t ∈ ts, Tryd.prog.readableRec t = true ∧ t < Tryd.prog.types.size) →
      DataW.TrodAll enc Tryd.prog W 0 (fun _ => true) true ts vs ds ps → (∀ x ∈ ps, x.block < W.heap.size) →
      DataW.TrodAll enc Tryd.prog W' 0 (fun b => decide (b < W.heap.size)) true ts vs ds ps
  | [], vs, ds, ps, _, h, _ => by
    obtain ⟨rfl, rfl, rfl⟩ := trodAll_nil h
    exact trodAll_mk0
  | t :: ts, vs, ds, ps, ht, h, hlt => by
    obtain ⟨v, vs', d, ds', p, q, rfl, rfl, rfl, h1, h2⟩ := trodAll_cons h
    exact trodAll_cons_mk (Below.trod laidOut (ht t (by simp)).1 (ht t (by simp)).2 h1 hb (fun x hx => hlt x (by simp [hx])))
      (trodAll_below hb ts vs' ds' q (fun t' h' => ht t' (by simp [h'])) h2 (fun x hx => hlt x (by simp [hx])))

theorem laid_met (os : Os) (args : Array Value) : laidMet Tryd.prog Rows.fnDurationParsesRow.laid ((World.laidAll Tryd.prog os Rows.fnDurationParsesRow.laid).forCall (fun _ _ => 0) ⟨#[], args, []⟩).memory :=
  laidMet_laidAll args (by kernel_rfl) (by kernel_rfl)
end Frame

namespace fnDurationParses
open Go.ChangeShapes Go.WideShapes Go.ChangeAt Go.RowKit
open Go.ChangeMaps (open_string shut_string)

theorem reads (os : Os) {H : Type} (enc : TypeId × Value → H) : ∃ places, DataW.whole enc Tryd.prog ((World.laidAll Tryd.prog os Rows.fnDurationParsesRow.laid).forCall (fun _ _ => 0) ⟨#[], #[.string ByteArray.empty], []⟩).memory Tryd.f4.params.toList Rows.fnDurationParsesSpec.vars false #[Value.string ByteArray.empty].toList 8 = some ([.lit (.string [])], [], places) :=
  ⟨[], by kernel_rfl⟩

set_option maxRecDepth 100000 in
theorem lifted (os : Os) (started : os.Started) (H : Type) (enc : TypeId × Value → H) (F : Stop.Interp) :
    ReturnsInHanded {} Tryd.checked os 4 .any ((OpenSpec.ofChange Rows.fnDurationParsesSpec).preRow enc Tryd.prog Tryd.f4 Rows.fnDurationParsesRow.domain false Rows.fnDurationParsesRow.laid) (((OpenSpec.ofChange Rows.fnDurationParsesSpec).at F).post enc Tryd.prog Tryd.f4 false true false false) := by
  obtain ⟨places, hx⟩ := reads os enc
  refine returnsInHanded_of_row (C := Tryd.checked) (s := OpenSpec.ofChange Rows.fnDurationParsesSpec) Frame.own started (by kernel_rfl) Tryd.func4
    (witness_row_at (enc := enc) (C := Tryd.checked) false (World.laidAll Tryd.prog os Rows.fnDurationParsesRow.laid) #[.string ByteArray.empty] (World.laidAll_os _ _ _) (by kernel_rfl) (by kernel_rfl) (by kernel_rfl)
      (OpenSpec.preRow_of_cond 8 hx (by kernel_rfl) (fun k hk => by cases hk) (by kernel_rfl) (Frame.laid_met os _))) ?_
  intro W base args ds gs before hval0 hW _ _ _ hL _ _
  have hval : ∀ (j : Nat) t v, Tryd.f4.params[j]? = some t → args[j]? = some v → Value.okWide Tryd.prog W .any base t v := hval0
  have hW' := hW
  obtain ⟨p, q, hA0, hV, rfl, hfz, hnd⟩ := hW
  have hA : DataW.TrodAll enc Tryd.prog W 0 (fun _ => true) true Tryd.f4.params.toList args.toList ds p := hA0
  rw [Tryd.params4] at hA hval
  have hAll := hA
  obtain ⟨v0, vs0, d0, ds0, p0, q0, hargs, rfl, rfl, h0, r0⟩ := trodAll_cons hA
  obtain ⟨rfl, rfl, rfl⟩ := trodAll_nil r0
  obtain rfl : args = #[v0] := by cases args; simp_all
  obtain ⟨rfl, rfl⟩ := trodVars_none hV
  obtain ⟨s, rfl, rfl, rfl, ws⟩ := open_string Tryd.underlying9 (hval 0 9 v0 rfl rfl) h0
  obtain ⟨T, x, hE⟩ := Frame.err_of_laid hL
  clear hA0 hval0
  refine (Dur.law4 s W T x hE (World.block_lt_of_cell? _ _ hE)).mono fun e W' ⟨he, bel⟩ => ?_
  subst he
  exact ⟨_, rfl, _, _, _, [], _, [], hW', trodAll_mk1 (shut_bool Tryd.underlying4 _), Frame.trodAll_below bel _ _ _ _ (by intro t ht; simp at ht; subst ht; exact ⟨by kernel_rfl, of_decide_eq_true (by kernel_rfl)⟩) hAll (fun x hx => by simp at hx), rfl, bel.frame _, fun h => by cases h⟩

theorem said : Rows.FnDurationParsesSaid :=
  OpenClaim.holds_of_cond 4 Tryd.f4 rfl rfl rfl rfl rfl rfl rfl ⟨rfl, rfl, rfl, rfl, rfl⟩ rfl rfl rfl rfl rfl (by kernel_rfl) Tryd.func4 (by kernel_rfl)
    (of_decide_eq_true (by kernel_rfl)) (by unfold Func.isWrapper; first | (rw [if_pos (by decide +kernel)]; kernel_rfl) | (rw [if_neg (by decide +kernel)]; exact ⟨rfl, rfl⟩))
    (fun os started H enc _ F => by rw [OpenClaim.pre_eq_preRow]; exact lifted os started H enc F)

/-- No parameter wants a stand-in; the program's own looks are off. -/
theorem plain (f : FuncId) (fn : Func) (hf : Tryd.pinned.checked.prog.funcNamed "pub-claviger/laws.FnDurationParses" = some f) (hfn : Tryd.pinned.checked.prog.funcs[f]? = some fn) :
    false = Tryd.pinned.checked.prog.looks [] ∧ ∀ (j : Nat) t, fn.params[j]? = some t → Tryd.pinned.checked.prog.wantsStandIn t = false := by
  obtain rfl : f = 4 := Option.some.inj ((show Tryd.prog.funcNamed "pub-claviger/laws.FnDurationParses" = some 4 by kernel_rfl).symm.trans hf) |>.symm
  obtain rfl : fn = Tryd.f4 := (Option.some.inj (Tryd.func4.symm.trans hfn)).symm
  refine ⟨by kernel_rfl, fun j t ht => ?_⟩
  rw [Tryd.params4] at ht
  obtain rfl : t = 9 := by simpa using Array.mem_of_getElem? ht
  exact (show Tryd.prog.wantsStandIn 9 = false by kernel_rfl)

/-- THE CARD -/
theorem proved : Rows.FnDurationParsesCardSaid :=
  Claim7.holds_tied_plain_at .later [] _ _ _ _ said (fun _ h => by cases h) (by kernel_rfl) (fun _ h => by cases h) fnDurationParses_row_tie rfl ⟨rfl, rfl⟩ (by kernel_rfl) rfl plain (by kernel_rfl)
#print axioms proved
end fnDurationParses
end Go.Proofs.YthbdcekcockhfaaDoor
