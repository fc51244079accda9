/-
  WALKS of the pattern functions, eighth part: impl.Match (10), and the law FnMatches (5).
-/
import Derived.Test.YthbdcekcockhfaaPatG
namespace Go.Proofs.Ythbdcekcockhfaa.Pat
open Go.RowKit

open Classical in
theorem goM_fullB (l : List Bs) (s : Bs) : PM.goM ((PM.itemsOf l).foldl PM.stepC []) s = fullB l s := by
  unfold fullB
  by_cases h : PM.full l s
  · rw [decide_eq_true h, (PM.goM_full l s).2 h]
  · rw [decide_eq_false h]
    cases hg : PM.goM ((PM.itemsOf l).foldl PM.stepC []) s with
    | false => rfl
    | true => exact absurd ((PM.goM_full l s).1 hg) h

theorem StrsAt.below {w w' : World} {v : Value} {l : List ByteArray} (h : StrsAt w v l) (hb : Below w.heap.size w w') : StrsAt w' v l := by
  obtain ⟨a, c, rfl, hm, hl⟩ := h
  refine ⟨a, c, rfl, hm, ?_⟩
  rcases hl with rfl | ⟨b, o, rfl, hc⟩
  · exact .inl rfl
  · refine .inr ⟨b, o, rfl, fun i hi => ?_⟩
    have := hc i hi
    rw [hb.cell (World.block_lt_of_cell? _ _ this)]
    exact this

theorem sum_items (l : List ByteArray) (hlen : l.length ≤ 1000) (hsz : ∀ i, i < l.length → (l.getD i ByteArray.empty).size ≤ 1000) : sumLen (PM.itemsOf (l.map bs)) ≤ 1000000 := by
  rw [sumLen_items]
  have hsum2 := sum_bound ((l.map bs).map List.length) 1000 (by
    intro n hn
    simp only [List.map_map, List.mem_map] at hn
    obtain ⟨s, hs, rfl⟩ := hn
    obtain ⟨i, hi, rfl⟩ := List.getElem_of_mem hs
    have := hsz i hi
    simp [List.getD_eq_getElem?_getD, List.getElem?_eq_getElem hi] at this
    show (bs l[i]).length ≤ 1000
    rw [bs_len]; exact this)
  simp at hsum2 ⊢
  omega

set_option maxHeartbeats 1000000 in
theorem match10 (v : Value) (l : List ByteArray) (s : ByteArray) (w : World) (hv : StrsAt w v l) (hlen : l.length ≤ 1000) (hs : s.size ≤ 1000000) (hsz : ∀ i, i < l.length → (l.getD i ByteArray.empty).size ≤ 1000) :
    Calls Try.prog 10 #[v, .string s] w fun e w' => e = .returned (.bool (fullB (l.map bs) (bs s))) ∧ Below w.heap.size w w' := by
  have hsum := sum_items l hlen hsz
  have C := pat14 v l w hv hlen hsz
  have hcl := fold_len (PM.itemsOf (l.map bs))
  have hil := len_items (l.map bs)
  have hll := lit_le (PM.itemsOf (l.map bs))
  simp at hil
  have HG := Lib.hid (goM_fullB (l.map bs) (bs s))
  generalize (PM.itemsOf (l.map bs)).foldl PM.stepC [] = cs at C hcl hll HG
  have hll2 : ∀ i, i < cs.length → (cs.getD i (false, [])).2.length ≤ 1000000 := by
    intro i hi
    have hm : cs.getD i (false, []) ∈ cs := by
      rw [List.getD_eq_getElem?_getD, List.getElem?_eq_getElem hi]
      simp
    have := hll _ hm
    omega
  have HC := Lib.hid C
  have HL := Lib.hid hll2
  have hcl2 : cs.length ≤ 1000000 := by omega
  obtain ⟨a, c, rfl, _⟩ := hv
  clear C hll hll2 hcl hil hsum hsz
  go_enter Try.func10, Try.ntmps10
  go_wp2_with fail
  refine HC.out.mono ?_
  rintro e w1 ⟨v1, rfl, hown, hbel⟩
  have HO := Lib.hid (comps_of_own hown)
  have HB := Lib.hid hbel
  clear hown hbel
  simp only []
  go_wp2_with fail
  refine (match15 _ cs s _ HO.out hcl2 hs HL.out).mono ?_
  rintro e w2 ⟨rfl, hbel2⟩
  have HB2 := Lib.hid hbel2
  clear hbel2
  simp only []
  go_wp2_with fail
  go_ret
  rw [HG.out]
  exact ⟨rfl, HB.out.trans (HB2.out.mono HB.out.size)⟩

theorem smallB_get {l : List ByteArray} (h : smallB l = true) : 1 ≤ l.length ∧ l.length ≤ 12 ∧ ∀ i, i < l.length → (l.getD i ByteArray.empty).size ≤ 20 := by
  unfold smallB at h; simpa using h

set_option maxHeartbeats 1000000 in
theorem law5 (v : Value) (l : List ByteArray) (s : ByteArray) (w : World) (hv : StrsAt w v l) (hs0 : s.size ≤ 9223372036854775807) :
    Calls Try.prog 5 #[v, .string s] w fun e w' => e = .returned (.bool true) ∧ Below w.heap.size w w' := by
  have HV := Lib.hid hv
  obtain ⟨a, c, rfl, _⟩ := hv
  have C1 := fits8 _ l w HV.out
  have C2 := small9 _ l w HV.out
  cases hf : fitsB l with
  | false =>
    rw [hf] at C1
    go_enter Try.func5, Try.ntmps5
    go_wp2_with fail
    refine C1.mono ?_
    rintro e w' ⟨rfl, rfl⟩
    go_wp2_with fail
    go_ret
    exact ⟨rfl, Below.refl _ _⟩
  | true =>
    rw [hf] at C1
    by_cases hs1 : 2147483647 < s.size
    · have hs2 : (2147483647 : Int) < (s.size : Int) := by omega
      go_enter Try.func5, Try.ntmps5
      go_wp2_with fail
      refine C1.mono ?_
      rintro e w' ⟨rfl, rfl⟩
      go_wp2_with fail
      go_ret
      exact ⟨rfl, Below.refl _ _⟩
    · have hs2 : ¬ (2147483647 : Int) < (s.size : Int) := by omega
      cases hm : smallB l with
      | false =>
        rw [hm] at C2
        go_enter Try.func5, Try.ntmps5
        go_wp2_with fail
        refine C1.mono ?_
        rintro e w' ⟨rfl, rfl⟩
        go_wp2_with fail
        refine C2.mono ?_
        rintro e w' ⟨rfl, rfl⟩
        go_wp2_with fail
        go_ret
        exact ⟨rfl, Below.refl _ _⟩
      | true =>
        rw [hm] at C2
        obtain ⟨b1, b2, b3⟩ := smallB_get hm
        by_cases hs3 : 60 < s.size
        · have hs4 : (60 : Int) < (s.size : Int) := by omega
          clear b3
          go_enter Try.func5, Try.ntmps5
          go_wp2_with fail
          refine C1.mono ?_
          rintro e w' ⟨rfl, rfl⟩
          go_wp2_with fail
          refine C2.mono ?_
          rintro e w' ⟨rfl, rfl⟩
          go_wp2_with fail
          go_ret
          exact ⟨rfl, Below.refl _ _⟩
        · have hs4 : ¬ (60 : Int) < (s.size : Int) := by omega
          have C3 := match10 _ l s w HV.out (by omega) (by omega) (fun i hi => by have := b3 i hi; omega)
          have C4 := fun (w1 : World) (hb : Below w.heap.size w w1) => ref11 _ l s w1 (HV.out.below hb) b1 (by omega) (by omega) (fun i hi => by have := b3 i hi; omega)
          have H3 := Lib.hid C3
          have H4 := Lib.hid C4
          generalize fullB (l.map bs) (bs s) = r at H3 H4
          clear C3 C4 b3 hm hf
          go_enter Try.func5, Try.ntmps5
          go_wp2_with fail
          refine C1.mono ?_
          rintro e w' ⟨rfl, rfl⟩
          go_wp2_with fail
          refine C2.mono ?_
          rintro e w' ⟨rfl, rfl⟩
          go_wp2_with fail
          refine H3.out.mono ?_
          rintro e w1 ⟨rfl, hb1⟩
          have HB1 := Lib.hid hb1
          clear hb1
          simp only []
          go_wp2_with fail
          refine (H4.out _ HB1.out).mono ?_
          rintro e w2 ⟨rfl, hb2⟩
          have HB2 := Lib.hid hb2
          clear hb2
          simp only []
          go_wp2_with fail
          go_ret
          exact ⟨by simp, HB1.out.trans (HB2.out.mono HB1.out.size)⟩
end Go.Proofs.Ythbdcekcockhfaa.Pat
