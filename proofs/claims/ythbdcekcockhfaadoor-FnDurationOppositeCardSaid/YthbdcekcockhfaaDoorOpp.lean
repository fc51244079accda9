/-
  FnDurationOpposite: for every number the law returns true; what came in reads as it did. The row lists the library's tables; its card.
-/
import Derived.Test.YthbdcekcockhfaaDoorK
import Derived.Test.YthbdcekcockhfaaDoorFrame
import Derived.Stop.LaidErr
namespace Go.Proofs.YthbdcekcockhfaaDoor
namespace fnDurationOpposite
open Go.ChangeShapes Go.WideShapes Go.ChangeAt Go.RowKit
open Go.ChangeMaps (open_string shut_string)

theorem gPow : Tryd.prog.globalNamed "internal/strconv.uint64pow10" = some 2 := by kernel_rfl
theorem gPowType : (Tryd.prog.globals[2]?).map (·.type) = some 78 := by kernel_rfl
theorem tab_of_laid {W : World} (h : laidMetH Tryd.prog Rows.fnDurationOppositeRow.laid W) : Lib.TabIs Tryd.prog W "internal/strconv.uint64pow10" .u64 Lib.pow10Tab := by
  have h' : laidMet Tryd.prog Rows.fnDurationOppositeRow.laid W := h
  exact Lib.tabIs_of_head gPow gPowType Tryd.underlying78 Tryd.underlying30 (by kernel_rfl) (by kernel_rfl) (laidMet.tail (laidMet.tail h'))
theorem laid_met (os : Os) (args : Array Value) : laidMet Tryd.prog Rows.fnDurationOppositeRow.laid ((World.laidAll Tryd.prog os Rows.fnDurationOppositeRow.laid).forCall (fun _ _ => 0) ⟨#[], args, []⟩).memory :=
  laidMet_laidAll args (by kernel_rfl) (by kernel_rfl)

theorem reads (os : Os) {H : Type} (enc : TypeId × Value → H) : ∃ places, DataW.whole enc Tryd.prog ((World.laidAll Tryd.prog os Rows.fnDurationOppositeRow.laid).forCall (fun _ _ => 0) ⟨#[], #[.int .i64 0], []⟩).memory Tryd.f5.params.toList Rows.fnDurationOppositeSpec.vars false #[Value.int .i64 0].toList 8 = some ([.lit (.int .i64 0)], [], places) :=
  ⟨[], by kernel_rfl⟩

set_option maxRecDepth 100000 in
theorem lifted (os : Os) (started : os.Started) (H : Type) (enc : TypeId × Value → H) (F : Stop.Interp) :
    ReturnsInHanded {} Tryd.checked os 5 .any ((OpenSpec.ofChange Rows.fnDurationOppositeSpec).preRow enc Tryd.prog Tryd.f5 Rows.fnDurationOppositeRow.domain false Rows.fnDurationOppositeRow.laid) (((OpenSpec.ofChange Rows.fnDurationOppositeSpec).at F).post enc Tryd.prog Tryd.f5 false true false false) := by
  obtain ⟨places, hx⟩ := reads os enc
  refine returnsInHanded_of_row (C := Tryd.checked) (s := OpenSpec.ofChange Rows.fnDurationOppositeSpec) Frame.own started (by kernel_rfl) Tryd.func5
    (witness_row_at (enc := enc) (C := Tryd.checked) false (World.laidAll Tryd.prog os Rows.fnDurationOppositeRow.laid) #[.int .i64 0] (World.laidAll_os _ _ _) (by kernel_rfl) (by kernel_rfl) (by kernel_rfl)
      (OpenSpec.preRow_of_cond 8 hx (by kernel_rfl) (fun k hk => by cases hk) (by kernel_rfl) (laid_met os _))) ?_
  intro W base args ds gs before hval0 hW _ _ _ hL _ _
  have hval : ∀ (j : Nat) t v, Tryd.f5.params[j]? = some t → args[j]? = some v → Value.okWide Tryd.prog W .any base t v := hval0
  have hW' := hW
  obtain ⟨p, q, hA0, hV, rfl, hfz, hnd⟩ := hW
  have hA : DataW.TrodAll enc Tryd.prog W 0 (fun _ => true) true Tryd.f5.params.toList args.toList ds p := hA0
  rw [Tryd.params5] at hA hval
  have hAll := hA
  obtain ⟨v0, vs0, d0, ds0, p0, q0, hargs, rfl, rfl, h0, r0⟩ := trodAll_cons hA
  obtain ⟨rfl, rfl, rfl⟩ := trodAll_nil r0
  obtain rfl : args = #[v0] := by cases args; simp_all
  obtain ⟨rfl, rfl⟩ := trodVars_none hV
  obtain ⟨n, rfl, rfl, rfl, wn⟩ := open_int Tryd.underlying3 (hval 0 3 v0 rfl rfl) h0
  obtain ⟨l0, u0⟩ := bounds_i64 wn
  have htab := tab_of_laid hL
  clear hA0 hval0
  refine (Dur.law5 n W l0 u0 htab).mono fun e W' ⟨he, bel⟩ => ?_
  subst he
  exact ⟨_, rfl, _, _, _, [], _, [], hW', trodAll_mk1 (shut_bool Tryd.underlying4 _), Frame.trodAll_below bel _ _ _ _ (by intro t ht; simp at ht; subst ht; exact ⟨by kernel_rfl, of_decide_eq_true (by kernel_rfl)⟩) hAll (fun x hx => by simp at hx), rfl, bel.frame _, fun h => by cases h⟩

theorem said : Rows.FnDurationOppositeSaid :=
  OpenClaim.holds_of_cond 5 Tryd.f5 rfl rfl rfl rfl rfl rfl rfl ⟨rfl, rfl, rfl, rfl, rfl⟩ rfl rfl rfl rfl rfl (by kernel_rfl) Tryd.func5 (by kernel_rfl)
    (of_decide_eq_true (by kernel_rfl)) (by unfold Func.isWrapper; first | (rw [if_pos (by decide +kernel)]; kernel_rfl) | (rw [if_neg (by decide +kernel)]; exact ⟨rfl, rfl⟩))
    (fun os started H enc _ F => by rw [OpenClaim.pre_eq_preRow]; exact lifted os started H enc F)

/-- No parameter wants a stand-in; the program's own looks are off. -/
theorem plain (f : FuncId) (fn : Func) (hf : Tryd.pinned.checked.prog.funcNamed "pub-claviger/laws.FnDurationOpposite" = some f) (hfn : Tryd.pinned.checked.prog.funcs[f]? = some fn) :
    false = Tryd.pinned.checked.prog.looks [] ∧ ∀ (j : Nat) t, fn.params[j]? = some t → Tryd.pinned.checked.prog.wantsStandIn t = false := by
  obtain rfl : f = 5 := Option.some.inj ((show Tryd.prog.funcNamed "pub-claviger/laws.FnDurationOpposite" = some 5 by kernel_rfl).symm.trans hf) |>.symm
  obtain rfl : fn = Tryd.f5 := (Option.some.inj (Tryd.func5.symm.trans hfn)).symm
  refine ⟨by kernel_rfl, fun j t ht => ?_⟩
  rw [Tryd.params5] at ht
  obtain rfl : t = 3 := by simpa using Array.mem_of_getElem? ht
  exact (show Tryd.prog.wantsStandIn 3 = false by kernel_rfl)

/-- THE CARD -/
theorem proved : Rows.FnDurationOppositeCardSaid :=
  Claim7.holds_tied_plain_at .later [] _ _ _ _ said (fun _ h => by cases h) (by kernel_rfl) (fun _ h => by cases h) fnDurationOpposite_row_tie rfl ⟨rfl, rfl⟩ (by kernel_rfl) rfl plain (by kernel_rfl)
#print axioms proved
end fnDurationOpposite
end Go.Proofs.YthbdcekcockhfaaDoor
