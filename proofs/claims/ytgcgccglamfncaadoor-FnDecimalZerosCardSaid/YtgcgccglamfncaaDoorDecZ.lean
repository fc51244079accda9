/-
  FnDecimalZeros: for every number and every byte the law returns true; what came in reads as it did. The row lists the library's tables and errors; its card.
-/
import Derived.Test.YtgcgccglamfncaaDoorDn
import Derived.Test.YtgcgccglamfncaaDoorCards
import Derived.Test.YtgcgccglamfncaaDoorTie
import Derived.ProofKit
import Derived.OpenShut
import Derived.ShutString
import Derived.ChangeOld
import Derived.Deep.DeepHandedRow
import Derived.Lib.LaidTab
import Derived.LaidLaws
import Derived.Lay
import Derived.Stop.LaidErr
namespace Go.Proofs.YtgcgccglamfncaaDoor
namespace Frame
open Go.ChangeShapes Go.WideShapes Go.ChangeAt Go.RowKit
open Go.ChangeMaps (open_string shut_string)

theorem own : ownKnob Tryd.prog.godebug = none := by kernel_rfl
theorem laidOut : laidOutB Tryd.prog = true := by kernel_rfl

/-- all arguments read behind the call as before, where nothing below the old heap's end has turned -/
theorem trodAll_below {H : Type} {enc : TypeId × Value → H} {W W' : World} (hb : Below W.heap.size W W') :
    ∀ (ts : List TypeId) (vs : List Value) (ds : List (DataW H)) (ps : List MemPlace), (∀ t ∈ ts, Tryd.prog.readableRec t = true ∧ t < Tryd.prog.types.size) →
      DataW.TrodAll enc Tryd.prog W 0 (fun _ => true) true ts vs ds ps → (∀ x ∈ ps, x.block < W.heap.size) →
      DataW.TrodAll enc Tryd.prog W' 0 (fun b => decide (b < W.heap.size)) true ts vs ds ps
  | [], vs, ds, ps, _, h, _ => by
    obtain ⟨rfl, rfl, rfl⟩ := trodAll_nil h
    exact trodAll_mk0
  | t :: ts, vs, ds, ps, ht, h, hlt => by
    obtain ⟨v, vs', d, ds', p, q, rfl, rfl, rfl, h1, h2⟩ := trodAll_cons h
    exact trodAll_cons_mk (Below.trod laidOut (ht t (by simp)).1 (ht t (by simp)).2 h1 hb (fun x hx => hlt x (by simp [hx])))
      (trodAll_below hb ts vs' ds' q (fun t' h' => ht t' (by simp [h'])) h2 (fun x hx => hlt x (by simp [hx])))

theorem trod_float {H : Type} {enc : TypeId × Value → H} {P : Program} {w : World} {base : Nat} {sp : Nat → Bool} {held : Bool} {fuel : Nat} {t : TypeId} {k : FloatKind} {cs : List Value} {x : DataW H × List MemPlace} (ht : P.underlying t = some (.float k)) (h : DataW.trod enc P w base sp held fuel t cs = some x) :
    ∃ n, cs = [.float k n] ∧ x = (.lit (.float k n), []) := by
  cases fuel with
  | zero => simp [DataW.trod] at h
  | succ n =>
    unfold DataW.trod at h
    rw [ht] at h
    split at h <;> simp_all

theorem cells_of_floats {H : Type} {enc : TypeId × Value → H} {P : Program} {w : World} {base : Nat} {sp : Nat → Bool} {held : Bool} {fuel : Nat} {t e : TypeId} {n : Nat} {k : FloatKind} {cs : List Value} {zs : List Nat} {p : List MemPlace}
    (ht : P.underlying t = some (.array n e)) (he : P.underlying e = some (.float k)) (hce : P.cellsOf e = 1) (hct : P.cellsOf t = n)
    (h : DataW.trod enc P w base sp held fuel t cs = some (.agg (zs.map fun z => (DataW.lit (.float k z) : DataW H)), p)) : ∀ (i : Nat) (z : Nat), zs[i]? = some z → cs[i]? = some (Value.float k z) := by
  cases fuel with
  | zero => simp [DataW.trod] at h
  | succ fuel =>
    simp only [DataW.trod, ht, hce, hct, Nat.mul_one] at h
    split at h
    · obtain ⟨xs, hm, hx⟩ := Option.map_eq_some_iff.1 h
      have hxs : xs.map (·.1) = zs.map fun z => (DataW.lit (.float k z) : DataW H) := by
        have := congrArg Prod.fst hx
        simpa using this
      have hxl : xs.length = n := by simpa using Lib.mapM_length hm
      intro i z hz
      have hi : i < n := by
        have h1 := (List.getElem?_eq_some_iff.1 hz).1
        have h2 := congrArg List.length hxs
        simp at h2
        omega
      obtain ⟨b, hb, hf⟩ := Lib.mapM_at hm i i (by simp [hi])
      obtain ⟨z', hc, rfl⟩ := trod_float he hf
      have h1 : cs[i]? = some (.float k z') := by
        have := congrArg (·[0]?) hc
        simpa [List.getElem?_take, List.getElem?_drop] using this
      have h2 : (xs.map (·.1))[i]? = some (DataW.lit (.float k z') : DataW H) := by simp [hb]
      rw [hxs] at h2
      simp only [List.getElem?_map, hz, Option.map_some, Option.some.injEq, DataW.lit.injEq, Lit.float.injEq, true_and] at h2
      rw [h1, h2]
    · cases h

theorem iface_head {name s : String} {d : DataW Unit} {rest : List (String × DataW Unit)} {W : World} {g : Nat} (hg : Tryd.prog.globalNamed name = some g) (hty : (Tryd.prog.globals[g]?).map (·.type) = some 31) (h : laidMet Tryd.prog ((name, .iface s d) :: rest) W) : ∃ T x, W.cell? ⟨g, 0, none⟩ = some (.iface T x) := by
  obtain ⟨ps, ⟨g', t, cs, f, p, q, hg', ht, hv, hd, _, _⟩, _⟩ := h
  obtain rfl := Option.some.inj (hg.symm.trans hg')
  obtain rfl := Option.some.inj (hty.symm.trans ht)
  obtain ⟨f', u, v, hcs, _, _⟩ := iface_of_trod Tryd.underlying31 hd
  have := World.var?_cell hg hv 0
  obtain ⟨l⟩ := cs
  have hl : l = [.iface u v] := hcs
  subst hl
  exact ⟨u, v, by simpa using this⟩

theorem floats_head {name : String} {zs : List Nat} {rest : List (String × DataW Unit)} {W : World} {g t n : Nat} (hg : Tryd.prog.globalNamed name = some g) (hty : (Tryd.prog.globals[g]?).map (·.type) = some t) (hu : Tryd.prog.underlying t = some (.array n 44)) (hct : Tryd.prog.cellsOf t = n)
    (h : laidMet Tryd.prog ((name, .agg (zs.map fun z => (DataW.lit (.float .f64 z) : DataW Unit))) :: rest) W) : ∀ (i : Nat) (z : Nat), zs[i]? = some z → W.cell? ⟨g, i, none⟩ = some (Value.float .f64 z) := by
  obtain ⟨ps, ⟨g', t', cs, f, p, q, hg', ht, hv, hd, _, _⟩, _⟩ := h
  obtain rfl := Option.some.inj (hg.symm.trans hg')
  obtain rfl := Option.some.inj (hty.symm.trans ht)
  intro i z hz
  have h1 := cells_of_floats hu Tryd.underlying44 (by kernel_rfl) hct hd i z hz
  have := World.var?_cell hg hv i
  rw [this]
  simpa using h1

theorem env_of_laid {W : World} (h : laidMetH Tryd.prog Rows.fnDecimalZerosRow.laid W) : Dec.Env W := by
  have h0 : laidMet Tryd.prog Rows.fnDecimalZerosRow.laid W := h
  have h3 := laidMet.tail (laidMet.tail (laidMet.tail h0))
  have h4 := laidMet.tail h3
  have h6 := laidMet.tail (laidMet.tail h4)
  have h7 := laidMet.tail h6
  have h8 := laidMet.tail h7
  obtain ⟨T0, x0, c0⟩ := iface_head (g := 0) (by kernel_rfl) (by kernel_rfl) h6
  obtain ⟨T6, x6, c6⟩ := iface_head (g := 6) (by kernel_rfl) (by kernel_rfl) h7
  obtain ⟨T5, x5, c5⟩ := iface_head (g := 5) (by kernel_rfl) (by kernel_rfl) h8
  have t3 := floats_head (zs := [4607182418800017408, 4621819117588971520, 4636737291354636288, 4652007308841189376, 4666723172467343360, 4681608360884174848, 4696837146684686336, 4711630319722168320, 4726483295884279808, 4741671816366391296, 4756540486875873280, 4771362005757984768, 4786511204640096256, 4801453603149578240, 4816244402031689728, 4831355200913801216, 4846369599423283200, 4861130398305394688, 4876203697187506176, 4891288408196988160, 4906019910204099648, 4921056587992461136, 4936209963552724370, 4950912855330343670, 4965913770331839924, 4981134201117475473, 4995809153217856309, 5010775143622804482, 5026061058026967681, 5040708725286295329, 5055640609639927018, 5070927765361438756]) (g := 3) (t := 52) (n := 32) (by kernel_rfl) (by kernel_rfl) Tryd.underlying52 (by kernel_rfl) h3
  have t2 := floats_head (zs := [4607182418800017408, 5085611494797045271, 5564284217833028085, 6043257259031049059, 6521906365687930162, 7000496887210966211, 7479368607221621995, 7958223736346011545, 8436737289693151036, 8915514139102383430]) (g := 2) (t := 50) (n := 10) (by kernel_rfl) (by kernel_rfl) Tryd.underlying50 (by kernel_rfl) h4
  refine ⟨⟨T0, x0, c0⟩, ⟨T5, x5, c5⟩, ⟨T6, x6, c6⟩, ⟨t2 0 _ rfl, fun k hk => ?_⟩, World.block_lt_of_cell? W _ c6⟩
  match k, hk with
  | 0, _ => exact t3 0 _ rfl
  | 1, _ => exact t3 1 _ rfl
  | 2, _ => exact t3 2 _ rfl
  | 3, _ => exact t3 3 _ rfl
  | 4, _ => exact t3 4 _ rfl
end Frame

namespace fnDecimalZeros
open Go.ChangeShapes Go.WideShapes Go.ChangeAt Go.RowKit
open Go.ChangeMaps (open_string shut_string)

theorem nat_u8 {n : Int} (h : (Lit.int .u8 n).wf = true) : ∃ k : Nat, n = k ∧ k < 256 := by
  have : 0 ≤ n ∧ n ≤ 255 := by simpa [Lit.wf, IntKind.min, IntKind.max, IntKind.signed, IntKind.bits] using h
  exact ⟨n.toNat, by omega, by omega⟩
theorem le_i64 {n : Int} (h : (Lit.int .i64 n).wf = true) : n ≤ 9223372036854775807 := by
  have : -9223372036854775808 ≤ n ∧ n ≤ 9223372036854775807 := by simpa [Lit.wf, IntKind.min, IntKind.max, IntKind.signed, IntKind.bits] using h
  exact this.2

theorem laid_met (os : Os) (args : Array Value) : laidMet Tryd.prog Rows.fnDecimalZerosRow.laid ((World.laidAll Tryd.prog os Rows.fnDecimalZerosRow.laid).forCall (fun _ _ => 0) ⟨#[], args, []⟩).memory :=
  laidMet_laidAll args (by kernel_rfl) (by kernel_rfl)

theorem reads (os : Os) {H : Type} (enc : TypeId × Value → H) : ∃ places, DataW.whole enc Tryd.prog ((World.laidAll Tryd.prog os Rows.fnDecimalZerosRow.laid).forCall (fun _ _ => 0) ⟨#[], #[.int .i64 0, .int .u8 0], []⟩).memory Tryd.f4.params.toList Rows.fnDecimalZerosSpec.vars false #[Value.int .i64 0, Value.int .u8 0].toList 8 = some ([.lit (.int .i64 0), .lit (.int .u8 0)], [], places) :=
  ⟨[], by kernel_rfl⟩

set_option maxRecDepth 100000 in
theorem lifted (os : Os) (started : os.Started) (H : Type) (enc : TypeId × Value → H) (F : Stop.Interp) :
    ReturnsInHanded {} Tryd.checked os 4 .any ((OpenSpec.ofChange Rows.fnDecimalZerosSpec).preRow enc Tryd.prog Tryd.f4 Rows.fnDecimalZerosRow.domain false Rows.fnDecimalZerosRow.laid) (((OpenSpec.ofChange Rows.fnDecimalZerosSpec).at F).post enc Tryd.prog Tryd.f4 false true false false) := by
  obtain ⟨places, hx⟩ := reads os enc
  refine returnsInHanded_of_row (C := Tryd.checked) (s := OpenSpec.ofChange Rows.fnDecimalZerosSpec) Frame.own started (by kernel_rfl) Tryd.func4
    (witness_row_at (enc := enc) (C := Tryd.checked) false (World.laidAll Tryd.prog os Rows.fnDecimalZerosRow.laid) #[.int .i64 0, .int .u8 0] (World.laidAll_os _ _ _) (by kernel_rfl) (by kernel_rfl) (by kernel_rfl)
      (OpenSpec.preRow_of_cond 8 hx (by kernel_rfl) (fun k hk => by cases hk) (by kernel_rfl) (laid_met os _))) ?_
  intro W base args ds gs before hval0 hW _ _ _ hL _ _
  have hval : ∀ (j : Nat) t v, Tryd.f4.params[j]? = some t → args[j]? = some v → Value.okWide Tryd.prog W .any base t v := hval0
  have hW' := hW
  obtain ⟨p, q, hA0, hV, rfl, hfz, hnd⟩ := hW
  have hA : DataW.TrodAll enc Tryd.prog W 0 (fun _ => true) true Tryd.f4.params.toList args.toList ds p := hA0
  rw [Tryd.params4] at hA hval
  have hAll := hA
  obtain ⟨v0, vs0, d0, ds0, p0, q0, hargs, rfl, rfl, h0, r0⟩ := trodAll_cons hA
  obtain ⟨v1, vs1, d1, ds1, p1, q1, rfl, rfl, rfl, h1, r1⟩ := trodAll_cons r0
  obtain ⟨rfl, rfl, rfl⟩ := trodAll_nil r1
  obtain rfl : args = #[v0, v1] := by cases args; simp_all
  obtain ⟨rfl, rfl⟩ := trodVars_none hV
  obtain ⟨n, rfl, rfl, rfl, wn⟩ := open_int Tryd.underlying3 (hval 0 3 v0 rfl rfl) h0
  obtain ⟨z, rfl, rfl, rfl, wz⟩ := open_int Tryd.underlying5 (hval 1 5 v1 rfl rfl) h1
  obtain ⟨z, rfl, hz⟩ := nat_u8 wz
  have henv := Frame.env_of_laid hL
  clear hA0 hval0
  refine (Dec.law4 n z W henv (le_i64 wn) hz).mono fun e W' ⟨he, bel⟩ => ?_
  subst he
  exact ⟨_, rfl, _, _, _, [], _, [], hW', trodAll_mk1 (shut_bool Tryd.underlying4 _), Frame.trodAll_below bel _ _ _ _ (by intro t ht; simp at ht; rcases ht with rfl | rfl <;> exact ⟨by kernel_rfl, of_decide_eq_true (by kernel_rfl)⟩) hAll (fun x hx => by simp at hx), rfl, bel.frame _, fun h => by cases h⟩

theorem said : Rows.FnDecimalZerosSaid :=
  OpenClaim.holds_of_cond 4 Tryd.f4 rfl rfl rfl rfl rfl rfl rfl ⟨rfl, rfl, rfl, rfl, rfl⟩ rfl rfl rfl rfl rfl (by kernel_rfl) Tryd.func4 (by kernel_rfl)
    (of_decide_eq_true (by kernel_rfl)) (by unfold Func.isWrapper; first | (rw [if_pos (by decide +kernel)]; kernel_rfl) | (rw [if_neg (by decide +kernel)]; exact ⟨rfl, rfl⟩))
    (fun os started H enc _ F => by rw [OpenClaim.pre_eq_preRow]; exact lifted os started H enc F)

/-- No parameter wants a stand-in; the program's own looks are on. -/
theorem plain (f : FuncId) (fn : Func) (hf : Tryd.pinned.checked.prog.funcNamed "pub-claviger/laws.FnDecimalZeros" = some f) (hfn : Tryd.pinned.checked.prog.funcs[f]? = some fn) :
    true = Tryd.pinned.checked.prog.looks [] ∧ ∀ (j : Nat) t, fn.params[j]? = some t → Tryd.pinned.checked.prog.wantsStandIn t = false := by
  obtain rfl : f = 4 := Option.some.inj ((show Tryd.prog.funcNamed "pub-claviger/laws.FnDecimalZeros" = some 4 by kernel_rfl).symm.trans hf) |>.symm
  obtain rfl : fn = Tryd.f4 := (Option.some.inj (Tryd.func4.symm.trans hfn)).symm
  refine ⟨by kernel_rfl, fun j t ht => ?_⟩
  rw [Tryd.params4] at ht
  have ht' := Array.mem_of_getElem? ht
  simp at ht'
  rcases ht' with rfl | rfl
  · exact (show Tryd.prog.wantsStandIn 3 = false by kernel_rfl)
  · exact (show Tryd.prog.wantsStandIn 5 = false by kernel_rfl)

/-- THE CARD -/
theorem proved : Rows.FnDecimalZerosCardSaid :=
  Claim7.holds_tied_plain_at .later [] _ _ _ _ said (fun _ h => by cases h) (by kernel_rfl) (fun _ h => by cases h) fnDecimalZeros_row_tie rfl ⟨rfl, rfl⟩ (by kernel_rfl) rfl plain (by kernel_rfl)
#print axioms proved
end fnDecimalZeros
end Go.Proofs.YtgcgccglamfncaaDoor
