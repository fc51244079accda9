/-
  WALKS for FnUIDsAlike: the method Intersects (32); Equal (27), Intersects (28) of the sets that do not change.
-/
import Derived.Test.YtmfolfjmajmamaaDoorTe
namespace Go.Proofs.YtmfolfjmajmamaaDoor.Al
open Go.RowKit Go.Maps Go.Proofs.YtmfolfjmajmamaaDoor.Ss

set_option maxRecDepth 100000 in
set_option maxHeartbeats 2000000 in
theorem meet32 (m1 m2 n1 n2 : Nat) (D1 D2 : DataW Unit) (w : World) (h1 : w.ownsMap Tryd.prog 46 (unitElem (H := Unit)) m1 n1 D1) (h2 : w.ownsMap Tryd.prog 46 (unitElem (H := Unit)) m2 n2 D2) :
    Calls Tryd.prog 32 #[.agg #[.map (some m1)], .iface 50 (.agg #[.map (some m2)])] w fun e w' => (∃ q, e = .returned (.bool q) ∧ (q = true ↔ ∃ x, small x ∧ Maps.has D1 (kl x) = true ∧ Maps.has D2 (kl x) = true)) ∧ Below w.heap.size w w' := by
  have H1 := Lib.hid (h1.alloc (.cells #[.map (some m1)] 41))
  have H2 := Lib.hid (h2.alloc (.cells #[.map (some m1)] 41))
  have MH := meth_has m2
  have HLT := Lib.hid (And.intro h1.lt h2.lt)
  clear h1 h2
  have e1 : (w.alloc (.cells #[.map (some m1)] 41)).heap.size = w.heap.size + 1 := by simp
  go_enter Tryd.func32, Tryd.ntmps32
  go_wp2_with (first
    | (at_range; refine wpList_range_own _ rfl _ 39 rfl 46 56 law46 Tryd.underlying39 _ m1 n1 D1 rfl H1.out ?_; intro w2 hrg hg hs)
    | go_in)
  go_frame
  rw [e1] at hrg ⊢
  have HST := Lib.hid (show ERel w.heap.size m1 m2 (w.heap.size + 1) n1 n2 D1 D2 false w w2 from ⟨Maps.has D1, _, hrg, H2.out.kept hg (by simp), fun x _ h h' => absurd (h.symm.trans h') (by simp), ((Below.refl w.heap.size w).alloc (Nat.le_refl _) (.cells #[.map (some m1)] 41)).grown hg (by simp) (fun k e => by cases e)⟩)
  clear hrg hg hs e1
  go_loopw [9] (fun _ wr => ERel w.heap.size m1 m2 (w.heap.size + 1) n1 n2 D1 D2 false w wr) (fun _ wr => wr.rangeLeft m1 (w.heap.size + 1))
  case atStart => exact HST.out
  case round =>
    obtain ⟨left, cnt, hrg, hown, hq, hB⟩ := hrel
    have HQ := Lib.hid hq
    have HB := Lib.hid hB
    have HO2 := Lib.hid hown
    have HRL := Lib.hid hrg.left_eq
    clear hq hB hown
    go_wp2_with (first
      | (at_next; refine wpList_next_ranges _ rfl _ rfl 46 law46 unitElem kv (fun _ : Unit => .agg #[]) kv_kinds unit_kinds m1 (w.heap.size + 1) n1 D1 left cnt rfl hrg ?_ ?_)
      | go_in)
    · intro hc0 hl0
      have HL0 := Lib.hid hl0
      clear hc0 hl0
      go_wp2_with fail
      go_ret
      refine ⟨⟨false, rfl, Iff.intro (fun h => by cases h) (fun h => ?_)⟩, HB.out⟩
      obtain ⟨x, hx, h1, h2⟩ := h
      have := HQ.out x hx h1 (HL0.out _)
      rw [h2] at this
      cases this
    · intro x c kl' y w3 cnt1 hkey hlk hR hat hrg1 hlt hg1 hs1 hen
      have hx : small x := by
        obtain ⟨x', e, hs'⟩ := key_inv hkey
        rw [kv_inj e]
        exact hs'
      obtain rfl : c = kl x := Option.some.inj (hkey.symm.trans (key_of x hx))
      have h1x : Maps.has D1 (kl x) = true := Maps.has_true_of_atKey hat
      have hown3 := HO2.out.kept hg1 (fun e => by
        have e := Option.some.inj e
        have := HLT.out.2
        omega)
      have HB3 := Lib.hid (HB.out.grown hg1 HB.out.size (fun k e => by cases e; omega))
      have H54 := has54 x hx m2 n2 D2 (w3.alloc (.cells #[.string x.t, .string x.i] 46)) (hown3.alloc _)
      have HX := Lib.hid (And.intro hrg1 (And.intro hown3 (And.intro hlt h1x)))
      obtain ⟨q, hq⟩ : ∃ q, Maps.has D2 (kl x) = q := ⟨_, rfl⟩
      rw [hq] at H54
      have HQX := Lib.hid (And.intro hx hq)
      clear hrg1 hown3 hlt h1x hq hx hkey hlk hR hat hg1 hs1 hrg
      obtain ⟨s, i⟩ := x
      simp only [kv] at H54 hen ⊢
      cases q
      · go_wp2_with fail
        refine H54.mono ?_
        rintro e w4 ⟨rfl, g4⟩
        have HZ := Lib.hid ((HB3.out.alloc HB3.out.size (.cells #[.string s, .string i] 46)).grown g4 (by have := HB3.out.size; simp; omega) (fun k e => by cases e))
        have HY := Lib.hid (And.intro ((HX.out.1.alloc (.cells #[.string s, .string i] 46)).kept g4 (by simp) (by simp)) ((HX.out.2.1.alloc (.cells #[.string s, .string i] 46)).kept g4 (by simp)))
        clear g4
        simp only []
        go_wp2_with fail
        go_roundw
        case rel =>
          refine ⟨_, cnt1, HY.out.1, HY.out.2, fun z hz h h' => ?_, HZ.out⟩
          simp only [Bool.and_eq_false_iff, Bool.not_eq_false'] at h'
          rcases h' with h' | h'
          · exact HQ.out z hz h h'
          · rw [WideAt.sameKey_eq h']
            exact HQX.out.2
        case measure => rw [HY.out.1.left_eq, HRL.out]; exact HX.out.2.2.1
      · go_wp2_with fail
        refine H54.mono ?_
        rintro e w4 ⟨rfl, g4⟩
        have HZ := Lib.hid ((HB3.out.alloc HB3.out.size (.cells #[.string s, .string i] 46)).grown g4 (by have := HB3.out.size; simp; omega) (fun k e => by cases e))
        clear g4
        simp only []
        go_wp2_with fail
        go_ret
        exact ⟨⟨true, rfl, Iff.intro (fun _ => ⟨⟨s, i⟩, HQX.out.1, HX.out.2.2.2, HQX.out.2⟩) (fun _ => rfl)⟩, HZ.out⟩

/-- the lists of two sets are alike -/
def alikeL (a b : List K) : Prop := a.length = b.length ∧ ∀ x ∈ a, x ∈ b
def meetL (a b : List K) : Prop := ∃ x, x ∈ a ∧ x ∈ b

theorem eq27 (B1 B2 : Nat) (h1 h2 : List K) (n1 n2 : Nat) (v1 v2 : Value) (w : World) (H1 : SetV B1 h1 n1 v1 w) (H2 : SetV B2 h2 n2 v2 w) :
    Calls Tryd.prog 27 #[v1, .iface 50 v2] w fun e w' => (∃ q, e = .returned (.bool q) ∧ (q = true ↔ alikeL h1 h2)) ∧ Below w.heap.size w w' := by
  obtain ⟨m1, D1, rfl, _, o1, R1⟩ := H1
  obtain ⟨m2, D2, rfl, _, o2, R2⟩ := H2
  have L : Calls Tryd.prog 31 #[.agg #[.map (some m1)], .iface 50 (.agg #[.map (some m2)])] (w.alloc (.cells #[.map (some m1)] 50)) fun e w' => (∃ q, e = .returned (.bool q) ∧ (q = true ↔ alikeL h1 h2)) ∧ Below (w.alloc (.cells #[.map (some m1)] 50)).heap.size (w.alloc (.cells #[.map (some m1)] 50)) w' := by
    by_cases hs : Maps.size D1 = Maps.size D2
    · refine (eq31 m1 m2 n1 n2 D1 D2 _ (o1.alloc _) (o2.alloc _) hs).mono ?_
      rintro e w' ⟨⟨q, rfl, hq⟩, hb⟩
      refine ⟨⟨q, rfl, hq.trans ?_⟩, hb⟩
      have hl : h1.length = h2.length := by rw [← R1.size, ← R2.size, hs]
      constructor
      · intro h
        refine ⟨hl, fun x hx => ?_⟩
        have := h x (R1.sm x hx) (by rw [R1.has x (R1.sm x hx)]; simp [hx])
        rw [R2.has x (R1.sm x hx)] at this
        simpa using this
      · intro h x hx hd
        rw [R1.has x hx] at hd
        rw [R2.has x hx]
        simpa using h.2 x (by simpa using hd)
    · refine (eq31_len m1 m2 n1 n2 D1 D2 _ (o1.alloc _) (o2.alloc _) hs).mono ?_
      rintro e w' ⟨rfl, hb⟩
      refine ⟨⟨false, rfl, Iff.intro (fun h => by cases h) (fun h => ?_)⟩, hb⟩
      exact absurd (by rw [R1.size, R2.size]; exact h.1) hs
  clear o1 o2 R1 R2
  go_enter Tryd.func27, Tryd.ntmps27
  go_wp2_with fail
  refine L.mono ?_
  rintro e w1 ⟨⟨q, rfl, hq⟩, hb⟩
  have HZ := Lib.hid (And.intro hq (((Below.refl w.heap.size w).alloc (Nat.le_refl _) (.cells #[.map (some m1)] 50)).trans (hb.mono (by simp))))
  clear hq hb
  simp only []
  go_wp2_with fail
  go_ret
  exact ⟨⟨q, rfl, HZ.out.1⟩, HZ.out.2⟩

theorem meet28 (B1 B2 : Nat) (h1 h2 : List K) (n1 n2 : Nat) (v1 v2 : Value) (w : World) (H1 : SetV B1 h1 n1 v1 w) (H2 : SetV B2 h2 n2 v2 w) :
    Calls Tryd.prog 28 #[v1, .iface 50 v2] w fun e w' => (∃ q, e = .returned (.bool q) ∧ (q = true ↔ meetL h1 h2)) ∧ Below w.heap.size w w' := by
  obtain ⟨m1, D1, rfl, _, o1, R1⟩ := H1
  obtain ⟨m2, D2, rfl, _, o2, R2⟩ := H2
  have L : Calls Tryd.prog 32 #[.agg #[.map (some m1)], .iface 50 (.agg #[.map (some m2)])] (w.alloc (.cells #[.map (some m1)] 50)) fun e w' => (∃ q, e = .returned (.bool q) ∧ (q = true ↔ meetL h1 h2)) ∧ Below (w.alloc (.cells #[.map (some m1)] 50)).heap.size (w.alloc (.cells #[.map (some m1)] 50)) w' := by
    refine (meet32 m1 m2 n1 n2 D1 D2 _ (o1.alloc _) (o2.alloc _)).mono ?_
    rintro e w' ⟨⟨q, rfl, hq⟩, hb⟩
    refine ⟨⟨q, rfl, hq.trans ?_⟩, hb⟩
    constructor
    · rintro ⟨x, hx, a, b⟩
      rw [R1.has x hx] at a
      rw [R2.has x hx] at b
      exact ⟨x, by simpa using a, by simpa using b⟩
    · rintro ⟨x, a, b⟩
      exact ⟨x, R1.sm x a, by rw [R1.has x (R1.sm x a)]; simp [a], by rw [R2.has x (R1.sm x a)]; simp [b]⟩
  clear o1 o2 R1 R2
  go_enter Tryd.func28, Tryd.ntmps28
  go_wp2_with fail
  refine L.mono ?_
  rintro e w1 ⟨⟨q, rfl, hq⟩, hb⟩
  have HZ := Lib.hid (And.intro hq (((Below.refl w.heap.size w).alloc (Nat.le_refl _) (.cells #[.map (some m1)] 50)).trans (hb.mono (by simp))))
  clear hq hb
  simp only []
  go_wp2_with fail
  go_ret
  exact ⟨⟨q, rfl, HZ.out.1⟩, HZ.out.2⟩
end Go.Proofs.YtmfolfjmajmamaaDoor.Al
