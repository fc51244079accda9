/-
  WALKS for FnUIDsAlike: the methods Equal (31), Intersects (32).
-/
import Derived.Test.YtmfolfjmajmamaaDoorTd
namespace Go.Proofs.YtmfolfjmajmamaaDoor.Al
open Go.RowKit Go.Maps Go.Proofs.YtmfolfjmajmamaaDoor.Ss

/-- the loop over the first set, each of whose elements that has come lies (or does not lie: q) in the second -/
def ERel (B m1 m2 r n1 n2 : Nat) (D1 D2 : DataW Unit) (q : Bool) (w wr : World) : Prop :=
  ∃ (left : Lit → Bool) (cnt : Nat), wr.ranges Tryd.prog 46 (unitElem (H := Unit)) m1 r n1 D1 left cnt ∧ wr.ownsMap Tryd.prog 46 (unitElem (H := Unit)) m2 n2 D2 ∧
    (∀ x, small x → Maps.has D1 (kl x) = true → left (kl x) = false → Maps.has D2 (kl x) = q) ∧ Below B w wr

theorem meth_len (m : Nat) (w : World) : (method 180 50 (.agg #[.map (some m)]) "Len").run Tryd.prog w = .ok (26, .agg #[.map (some m)]) w := by kernel_rfl
theorem meth_has (m : Nat) (w : World) : (method 180 50 (.agg #[.map (some m)]) "Contains").run Tryd.prog w = .ok (54, .agg #[.map (some m)]) w := by kernel_rfl

set_option maxRecDepth 100000 in
set_option maxHeartbeats 2000000 in
theorem eq31_len (m1 m2 n1 n2 : Nat) (D1 D2 : DataW Unit) (w : World) (h1 : w.ownsMap Tryd.prog 46 (unitElem (H := Unit)) m1 n1 D1) (h2 : w.ownsMap Tryd.prog 46 (unitElem (H := Unit)) m2 n2 D2) (hne : ¬ Maps.size D1 = Maps.size D2) :
    Calls Tryd.prog 31 #[.agg #[.map (some m1)], .iface 50 (.agg #[.map (some m2)])] w fun e w' => e = .returned (.bool false) ∧ Below w.heap.size w w' := by
  have L := len26 m2 n2 D2 (w.alloc (.cells #[.map (some m1)] 41)) (h2.alloc _)
  have hne' : ¬ ((Maps.size D1 : Int) = (Maps.size D2 : Int)) := by omega
  have H1 := Lib.hid h1
  have ML := meth_len m2
  clear h1 h2 hne
  go_enter Tryd.func31, Tryd.ntmps31
  go_wp2_with (at_len; refine wpList_len_own _ rfl _ 39 rfl 46 56 Tryd.underlying39 _ m1 n1 D1 rfl (H1.out.alloc _) ?_)
  refine L.mono ?_
  rintro e w1 ⟨rfl, g⟩
  have HG := Lib.hid (((Below.refl w.heap.size w).alloc (Nat.le_refl _) (.cells #[.map (some m1)] 41)).grown g (by simp) (fun k e => by cases e))
  clear g
  simp only []
  go_wp2_with fail
  go_ret
  exact ⟨rfl, HG.out⟩

theorem kv_kinds (key : Value) (l : Lit) (h : keyOf Tryd.prog 46 key = some l) : ∃ x : K, key = kv x := by
  obtain ⟨x, hx, _⟩ := key_inv h
  exact ⟨x, hx⟩
theorem unit_kinds (v : Value) (y : DataW Unit × List MemPlace) (h : unitElem v = some y) : ∃ _c : Unit, v = .agg #[] := ⟨(), (unitElem_inv h).1⟩

set_option maxRecDepth 100000 in
set_option maxHeartbeats 2000000 in
theorem eq31 (m1 m2 n1 n2 : Nat) (D1 D2 : DataW Unit) (w : World) (h1 : w.ownsMap Tryd.prog 46 (unitElem (H := Unit)) m1 n1 D1) (h2 : w.ownsMap Tryd.prog 46 (unitElem (H := Unit)) m2 n2 D2) (heq : Maps.size D1 = Maps.size D2) :
    Calls Tryd.prog 31 #[.agg #[.map (some m1)], .iface 50 (.agg #[.map (some m2)])] w fun e w' => (∃ q, e = .returned (.bool q) ∧ (q = true ↔ ∀ x, small x → Maps.has D1 (kl x) = true → Maps.has D2 (kl x) = true)) ∧ Below w.heap.size w w' := by
  have L := len26 m2 n2 D2 (w.alloc (.cells #[.map (some m1)] 41)) (h2.alloc _)
  have hne' : (Maps.size D1 : Int) = (Maps.size D2 : Int) := by omega
  have H1 := Lib.hid (h1.alloc (.cells #[.map (some m1)] 41))
  have H2 := Lib.hid (h2.alloc (.cells #[.map (some m1)] 41))
  have ML := meth_len m2
  have MH := meth_has m2
  clear h1 h2 heq
  go_enter Tryd.func31, Tryd.ntmps31
  go_wp2_with (at_len; refine wpList_len_own _ rfl _ 39 rfl 46 56 Tryd.underlying39 _ m1 n1 D1 rfl (H1.out) ?_)
  refine L.mono ?_
  rintro e w1 ⟨rfl, g⟩
  have HG := Lib.hid (((Below.refl w.heap.size w).alloc (Nat.le_refl _) (.cells #[.map (some m1)] 41)).grown g (by simp) (fun k e => by cases e))
  have HO := Lib.hid (And.intro (H1.out.kept g (by simp)) (H2.out.kept g (by simp)))
  have c0 : w1.cell? ⟨w.heap.size, 0, none⟩ = some (.map (some m1)) := grown_cell g (by simp only [World.cell?]; rw [heap_alloc_new w _]; rfl)
  clear g
  simp only []
  go_wp2_with (first
    | (at_range; refine wpList_range_own _ rfl _ 39 rfl 46 56 law46 Tryd.underlying39 _ m1 n1 D1 rfl HO.out.1 ?_; intro w2 hrg hg hs)
    | go_in)
  go_frame
  have HST := Lib.hid (show ERel w.heap.size m1 m2 w1.heap.size n1 n2 D1 D2 true w w2 from ⟨Maps.has D1, _, hrg, HO.out.2.kept hg (by simp), fun x _ h h' => absurd (h.symm.trans h') (by simp), HG.out.grown hg HG.out.size (fun k e => by cases e)⟩)
  have HLT := Lib.hid (And.intro HO.out.1.lt HO.out.2.lt)
  have hr0 : w.heap.size ≤ w1.heap.size := HG.out.size
  clear hrg hg hs
  go_loopw [15] (fun _ wr => ERel w.heap.size m1 m2 w1.heap.size n1 n2 D1 D2 true w wr) (fun _ wr => wr.rangeLeft m1 w1.heap.size)
  case atStart => exact HST.out
  case round =>
    obtain ⟨left, cnt, hrg, hown, hq, hB⟩ := hrel
    have HQ := Lib.hid hq
    have HB := Lib.hid hB
    have HO2 := Lib.hid hown
    have HRL := Lib.hid hrg.left_eq
    clear hq hB hown
    go_wp2_with (first
      | (at_next; refine wpList_next_ranges _ rfl _ rfl 46 law46 unitElem kv (fun _ : Unit => .agg #[]) kv_kinds unit_kinds m1 w1.heap.size n1 D1 left cnt rfl hrg ?_ ?_)
      | go_in)
    · intro hc0 hl0
      have HL0 := Lib.hid hl0
      clear hc0 hl0
      go_wp2_with fail
      go_ret
      exact ⟨⟨true, rfl, fun _ x hx h => HQ.out x hx h (HL0.out _), fun _ => rfl⟩, HB.out⟩
    · intro x c kl' y w3 cnt1 hkey hlk hR hat hrg1 hlt hg1 hs1 hen
      have hx : small x := by
        obtain ⟨x', e, hs'⟩ := key_inv hkey
        rw [kv_inj e]
        exact hs'
      obtain rfl : c = kl x := Option.some.inj (hkey.symm.trans (key_of x hx))
      have h1x : Maps.has D1 (kl x) = true := Maps.has_true_of_atKey hat
      have hown3 := HO2.out.kept hg1 (fun e => by
        have e := Option.some.inj e
        have := HLT.out.2
        omega)
      have HB3 := Lib.hid (HB.out.grown hg1 HB.out.size (fun k e => by cases e; exact hr0))
      have H54 := has54 x hx m2 n2 D2 (w3.alloc (.cells #[.string x.t, .string x.i] 46)) (hown3.alloc _)
      have HX := Lib.hid (And.intro hrg1 (And.intro hown3 (And.intro hlt h1x)))
      obtain ⟨q, hq⟩ : ∃ q, Maps.has D2 (kl x) = q := ⟨_, rfl⟩
      rw [hq] at H54
      have HQX := Lib.hid (And.intro hx hq)
      clear hrg1 hown3 hlt h1x hq hx hkey hlk hR hat hg1 hs1 hrg
      obtain ⟨s, i⟩ := x
      simp only [kv] at H54 hen ⊢
      cases q
      · go_wp2_with fail
        refine H54.mono ?_
        rintro e w4 ⟨rfl, g4⟩
        have HZ := Lib.hid ((HB3.out.alloc HB3.out.size (.cells #[.string s, .string i] 46)).grown g4 (by have := HB3.out.size; simp; omega) (fun k e => by cases e))
        clear g4
        simp only []
        go_wp2_with fail
        go_ret
        refine ⟨⟨false, rfl, Iff.intro (fun h => by cases h) (fun h => ?_)⟩, HZ.out⟩
        have := h ⟨s, i⟩ HQX.out.1 HX.out.2.2.2
        rw [HQX.out.2] at this
        cases this
      · go_wp2_with fail
        refine H54.mono ?_
        rintro e w4 ⟨rfl, g4⟩
        have HZ := Lib.hid ((HB3.out.alloc HB3.out.size (.cells #[.string s, .string i] 46)).grown g4 (by have := HB3.out.size; simp; omega) (fun k e => by cases e))
        have HY := Lib.hid (And.intro ((HX.out.1.alloc (.cells #[.string s, .string i] 46)).kept g4 (by simp) (by simp)) ((HX.out.2.1.alloc (.cells #[.string s, .string i] 46)).kept g4 (by simp)))
        clear g4
        simp only []
        go_wp2_with fail
        go_roundw
        case rel =>
          refine ⟨_, cnt1, HY.out.1, HY.out.2, fun z hz h h' => ?_, HZ.out⟩
          simp only [Bool.and_eq_false_iff, Bool.not_eq_false'] at h'
          rcases h' with h' | h'
          · exact HQ.out z hz h h'
          · rw [WideAt.sameKey_eq h']
            exact HQX.out.2
        case measure => rw [HY.out.1.left_eq, HRL.out]; exact HX.out.2.2.1
end Go.Proofs.YtmfolfjmajmamaaDoor.Al
