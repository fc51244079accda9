/-
  WALKS for FnUIDsAlike: the law (4).
-/
import Derived.Test.YtmfolfjmajmamaaDoorTi
import Derived.IntWalk
namespace Go.Proofs.YtmfolfjmajmamaaDoor.Al
open Go.RowKit Go.Maps Go.Proofs.YtmfolfjmajmamaaDoor.Ss

theorem fitsU {v : Value} {n : Nat} {id : Nat → K} {w : World} (A : UAt v n id w) : Calls Tryd.prog 10 #[v] w fun e w' => IsBool e ∧ Below w.heap.size w w' := by
  obtain ⟨a, c, rfl, h0 | ⟨g, off, rfl, hg, hi⟩, _⟩ := A
  · subst h0
    exact fits10_none a c w
  · exact fits10 g off n c id w hg hi
theorem fewU {v : Value} {n : Nat} {id : Nat → K} {w : World} (A : UAt v n id w) : Calls Tryd.prog 11 #[v] w fun e w' => IsFew n e ∧ Below w.heap.size w w' := by
  obtain ⟨a, c, rfl, h0 | ⟨g, off, rfl, hg, hi⟩, _⟩ := A
  · subst h0
    exact few11_none a c w
  · exact few11 g off n c id w hg hi

/-- what a call gives that reads what came in, in whatever later world -/
def Gives (W : World) (f : FuncId) (args : Array Value) (v : Value) : Prop :=
  ∀ w, Below W.heap.size W w → Calls Tryd.prog f args w fun e w' => e = .returned v ∧ Below w.heap.size w w'

set_option maxRecDepth 100000 in
set_option maxHeartbeats 4000000 in
/-- the second half, over what the calls give -/
theorem law4_core (aa ab : Option Addr) (na nb ca cb N M T : Nat) (ida idb : Nat → K) (e q : Bool) (W : World)
    (UA : UAt (.slice aa na ca) na ida W) (UB : UAt (.slice ab nb cb) nb idb W)
    (LA : Gives W 12 #[.slice aa na ca] (.int .i64 N)) (LB : Gives W 12 #[.slice ab nb cb] (.int .i64 M))
    (LU : ∀ w v, Below W.heap.size W w → UAt v (na + nb) (joinF na ida idb) w → Calls Tryd.prog 12 #[v] w fun e w' => e = .returned (.int .i64 T) ∧ Below w.heap.size w w')
    (EAB : Gives W 14 #[.slice aa na ca, .slice ab nb cb] (.bool e)) (EAA : Gives W 14 #[.slice aa na ca, .slice aa na ca] (.bool true)) (EBA : Gives W 14 #[.slice ab nb cb, .slice aa na ca] (.bool e))
    (MAB : Gives W 15 #[.slice aa na ca, .slice ab nb cb] (.bool q)) (MBA : Gives W 15 #[.slice ab nb cb, .slice aa na ca] (.bool q)) (MAA : Gives W 15 #[.slice aa na ca, .slice aa na ca] (.bool (decide (0 < na))))
    (hN : N ≤ 200) (hM : M ≤ 200) (h1 : T ≤ N + M) (h2 : N ≤ T) (h3 : M ≤ T) (he : e = true → N = M ∧ T = N) (hq : q = decide (T < N + M)) :
    Calls Tryd.prog 4 #[.slice aa na ca, .slice ab nb cb] W fun e w' => e = .returned (.bool true) ∧ Below W.heap.size W w' := by
  have FA := Lib.hid (fun (w : World) (h : Below W.heap.size W w) => fitsU (UA.below h))
  have FB := Lib.hid (fun (w : World) (h : Below W.heap.size W w) => fitsU (UB.below h))
  have GA := Lib.hid (fun (w : World) (h : Below W.heap.size W w) => fewU (UA.below h))
  have GB := Lib.hid (fun (w : World) (h : Below W.heap.size W w) => fewU (UB.below h))
  have HUA := Lib.hid UA
  have HUB := Lib.hid UB
  have HLA := Lib.hid LA
  have HLB := Lib.hid LB
  have HLU := Lib.hid LU
  have HEAB := Lib.hid EAB
  have HEAA := Lib.hid EAA
  have HEBA := Lib.hid EBA
  have HMAB := Lib.hid MAB
  have HMBA := Lib.hid MBA
  have HMAA := Lib.hid MAA
  have hN' : (N : Int) ≤ 200 := by omega
  have hM' : (M : Int) ≤ 200 := by omega
  have hT1 : (T : Int) ≤ (N : Int) + (M : Int) := by omega
  have hT2 : (N : Int) ≤ (T : Int) := by omega
  have hT3 : (M : Int) ≤ (T : Int) := by omega
  have HE := Lib.hid (And.intro he hq)
  clear UA UB LA LB LU EAB EAA EBA MAB MBA MAA h1 h2 h3 he hq hN hM
  have HB0 := Lib.hid (Below.refl W.heap.size W)
  go_enter Tryd.func4, Tryd.ntmps4
  go_wp2_with fail
  refine (FA.out _ HB0.out).mono ?_
  rintro e0 w1 ⟨⟨b, rfl⟩, hb⟩
  have HB1 := Lib.hid (HB0.out.trans (hb.mono HB0.out.size))
  clear hb
  simp only []
  cases b
  · go_wp2_with fail
    go_ret
    exact ⟨rfl, HB1.out⟩
  go_wp2_with fail
  refine (FB.out _ HB1.out).mono ?_
  rintro e1 w2 ⟨⟨b, rfl⟩, hb⟩
  have HB2 := Lib.hid (HB1.out.trans (hb.mono HB1.out.size))
  clear hb
  simp only []
  cases b
  · go_wp2_with fail
    go_ret
    exact ⟨rfl, HB2.out⟩
  go_wp2_with fail
  refine (GA.out _ HB2.out).mono ?_
  rintro e2 w3 ⟨⟨b, rfl, hf⟩, hb⟩
  have HB3 := Lib.hid (HB2.out.trans (hb.mono HB2.out.size))
  have HF3 := Lib.hid hf
  clear hf
  clear hb
  simp only []
  cases b
  · go_wp2_with fail
    go_ret
    exact ⟨rfl, HB3.out⟩
  go_wp2_with fail
  refine (GB.out _ HB3.out).mono ?_
  rintro e3 w4 ⟨⟨b, rfl, hf⟩, hb⟩
  have HB4 := Lib.hid (HB3.out.trans (hb.mono HB3.out.size))
  have HF4 := Lib.hid hf
  clear hf
  clear hb
  simp only []
  cases b
  · go_wp2_with fail
    go_ret
    exact ⟨rfl, HB4.out⟩
  go_wp2_with fail
  have hna : na ≤ 200 := HF3.out trivial
  have hnb : nb ≤ 200 := HF4.out trivial
  refine (HLA.out _ HB4.out).mono ?_
  rintro e4 w5 ⟨rfl, hb⟩
  have HB5 := Lib.hid (HB4.out.trans (hb.mono HB4.out.size))
  clear hb
  simp only []
  go_wp2_with fail
  refine (HLB.out _ HB5.out).mono ?_
  rintro e5 w6 ⟨rfl, hb⟩
  have HB6 := Lib.hid (HB5.out.trans (hb.mono HB5.out.size))
  clear hb
  simp only []
  go_wp2_with fail
  refine (clone13 (HUA.out.below HB6.out) (by omega)).mono ?_
  rintro e6 w7 ⟨vc, rfl, hown, hb⟩
  have HB7 := Lib.hid (HB6.out.trans (hb.mono HB6.out.size))
  have HO7 := Lib.hid hown
  have HS7 := Lib.hid hb.size
  clear hb hown
  simp only []
  go_wp2_with (at_builtin; refine wpList_append_uids _ rfl _ _ rfl w6.heap.size vc _ na nb (flatK (idsL ida na)) idb rfl HO7.out rfl (HUB.out.below HB7.out) (by omega) HS7.out ?_; intro v8 w8 hown8 hgr8)
  have HB8 := Lib.hid (HB7.out.grown hgr8 HB7.out.size (fun k e => Nat.le_trans HB6.out.size (row_base HO7.out k e)))
  have hu8 : UAt v8 (na + nb) (joinF na ida idb) w8 := by
    rw [← flatK_append, joinF_list] at hown8
    refine uat_of_row hown8 (fun k hk => ?_)
    unfold joinF
    split
    · obtain ⟨_, _, _, _, hs⟩ := HUA.out
      exact hs k (by assumption)
    · obtain ⟨_, _, _, _, hs⟩ := HUB.out
      exact hs (k - na) (by omega)
  have HU8 := Lib.hid hu8
  clear hown8 hgr8 hu8
  go_wp2_with fail
  refine (HLU.out _ _ HB8.out HU8.out).mono ?_
  rintro e8 w9 ⟨rfl, hb⟩
  have HB9 := Lib.hid (HB8.out.trans (hb.mono HB8.out.size))
  clear hb
  simp only []
  go_wp2_with fail
  refine (HEAB.out _ HB9.out).mono ?_
  rintro e9 w10 ⟨rfl, hb⟩
  have HB10 := Lib.hid (HB9.out.trans (hb.mono HB9.out.size))
  clear hb
  simp only []
  go_wp2_with fail
  refine (HEAA.out _ HB10.out).mono ?_
  rintro e10 w11 ⟨rfl, hb⟩
  have HB11 := Lib.hid (HB10.out.trans (hb.mono HB10.out.size))
  clear hb
  simp only []
  go_wp2_with fail
  refine (HEBA.out _ HB11.out).mono ?_
  rintro e11 w12 ⟨rfl, hb⟩
  have HB12 := Lib.hid (HB11.out.trans (hb.mono HB11.out.size))
  clear hb
  simp only []
  go_wp2_with fail
  by_cases hp : 0 < na
  · cases e <;> cases q
    · have hq := HE.out.2
      have y3 : ¬ (T : Int) < (N : Int) + (M : Int) := by have := of_decide_eq_false hq.symm; omega
      clear hq
      have hd : decide (0 < na) = true := by simp [hp]
      have HM := HMAA.out
      rw [hd] at HM
      have HMAA' := Lib.hid HM
      clear HM hd HMAA
      have y4 : (0 : Int) < (na : Int) := by omega
      clear hp
      refine (HMAB.out _ HB12.out).mono ?_
      rintro e12 w13 ⟨rfl, hb⟩
      have HB13 := Lib.hid (HB12.out.trans (hb.mono HB12.out.size))
      clear hb
      simp only []
      go_wp2_with fail
      refine (HMBA.out _ HB13.out).mono ?_
      rintro e13 w14 ⟨rfl, hb⟩
      have HB14 := Lib.hid (HB13.out.trans (hb.mono HB13.out.size))
      clear hb
      simp only []
      go_wp2_with fail
      refine (HMAA'.out _ HB14.out).mono ?_
      rintro e14 w15 ⟨rfl, hb⟩
      have HB15 := Lib.hid (HB14.out.trans (hb.mono HB14.out.size))
      clear hb
      simp only []
      by_cases y5 : (N : Int) < (M : Int)
      · go_wp2_with fail
        refine (HMAB.out _ HB15.out).mono ?_
        rintro e15 w16 ⟨rfl, hb⟩
        have HB16 := Lib.hid (HB15.out.trans (hb.mono HB15.out.size))
        clear hb
        simp only []
        go_wp2_with fail
        go_ret
        refine ⟨?_, HB16.out⟩
        first
          | rfl
          | (show Ending.returned (.bool _) = _; simp; omega)
      · go_wp2_with fail
        refine (HMAB.out _ HB15.out).mono ?_
        rintro e15 w16 ⟨rfl, hb⟩
        have HB16 := Lib.hid (HB15.out.trans (hb.mono HB15.out.size))
        clear hb
        simp only []
        go_wp2_with fail
        go_ret
        refine ⟨?_, HB16.out⟩
        first
          | rfl
          | (show Ending.returned (.bool _) = _; simp; omega)
    · have hq := HE.out.2
      have y3 : (T : Int) < (N : Int) + (M : Int) := by have := of_decide_eq_true hq.symm; omega
      clear hq
      have hd : decide (0 < na) = true := by simp [hp]
      have HM := HMAA.out
      rw [hd] at HM
      have HMAA' := Lib.hid HM
      clear HM hd HMAA
      have y4 : (0 : Int) < (na : Int) := by omega
      clear hp
      refine (HMAB.out _ HB12.out).mono ?_
      rintro e12 w13 ⟨rfl, hb⟩
      have HB13 := Lib.hid (HB12.out.trans (hb.mono HB12.out.size))
      clear hb
      simp only []
      go_wp2_with fail
      refine (HMBA.out _ HB13.out).mono ?_
      rintro e13 w14 ⟨rfl, hb⟩
      have HB14 := Lib.hid (HB13.out.trans (hb.mono HB13.out.size))
      clear hb
      simp only []
      go_wp2_with fail
      refine (HMAA'.out _ HB14.out).mono ?_
      rintro e14 w15 ⟨rfl, hb⟩
      have HB15 := Lib.hid (HB14.out.trans (hb.mono HB14.out.size))
      clear hb
      simp only []
      by_cases y5 : (N : Int) < (M : Int)
      · go_wp2_with fail
        refine (HMAB.out _ HB15.out).mono ?_
        rintro e15 w16 ⟨rfl, hb⟩
        have HB16 := Lib.hid (HB15.out.trans (hb.mono HB15.out.size))
        clear hb
        simp only []
        go_wp2_with fail
        go_ret
        refine ⟨?_, HB16.out⟩
        first
          | rfl
          | (show Ending.returned (.bool _) = _; simp; omega)
      · go_wp2_with fail
        refine (HMAB.out _ HB15.out).mono ?_
        rintro e15 w16 ⟨rfl, hb⟩
        have HB16 := Lib.hid (HB15.out.trans (hb.mono HB15.out.size))
        clear hb
        simp only []
        go_wp2_with fail
        go_ret
        refine ⟨?_, HB16.out⟩
        first
          | rfl
          | (show Ending.returned (.bool _) = _; simp; omega)
    · obtain ⟨x1, x2⟩ := HE.out.1 rfl
      have y1 : (N : Int) = (M : Int) := by omega
      have y2 : (T : Int) = (M : Int) := by omega
      clear x1 x2
      have hq := HE.out.2
      have y3 : ¬ (T : Int) < (N : Int) + (M : Int) := by have := of_decide_eq_false hq.symm; omega
      clear hq
      have hd : decide (0 < na) = true := by simp [hp]
      have HM := HMAA.out
      rw [hd] at HM
      have HMAA' := Lib.hid HM
      clear HM hd HMAA
      have y4 : (0 : Int) < (na : Int) := by omega
      clear hp
      refine (HMAB.out _ HB12.out).mono ?_
      rintro e12 w13 ⟨rfl, hb⟩
      have HB13 := Lib.hid (HB12.out.trans (hb.mono HB12.out.size))
      clear hb
      simp only []
      go_wp2_with fail
      refine (HMBA.out _ HB13.out).mono ?_
      rintro e13 w14 ⟨rfl, hb⟩
      have HB14 := Lib.hid (HB13.out.trans (hb.mono HB13.out.size))
      clear hb
      simp only []
      go_wp2_with fail
      refine (HMAA'.out _ HB14.out).mono ?_
      rintro e14 w15 ⟨rfl, hb⟩
      have HB15 := Lib.hid (HB14.out.trans (hb.mono HB14.out.size))
      clear hb
      simp only []
      go_wp2_with fail
      refine (HMAB.out _ HB15.out).mono ?_
      rintro e15 w16 ⟨rfl, hb⟩
      have HB16 := Lib.hid (HB15.out.trans (hb.mono HB15.out.size))
      clear hb
      simp only []
      go_wp2_with fail
      go_ret
      refine ⟨?_, HB16.out⟩
      first
        | rfl
        | (show Ending.returned (.bool _) = _; simp; omega)
    · obtain ⟨x1, x2⟩ := HE.out.1 rfl
      have y1 : (N : Int) = (M : Int) := by omega
      have y2 : (T : Int) = (M : Int) := by omega
      clear x1 x2
      have hq := HE.out.2
      have y3 : (T : Int) < (N : Int) + (M : Int) := by have := of_decide_eq_true hq.symm; omega
      clear hq
      have hd : decide (0 < na) = true := by simp [hp]
      have HM := HMAA.out
      rw [hd] at HM
      have HMAA' := Lib.hid HM
      clear HM hd HMAA
      have y4 : (0 : Int) < (na : Int) := by omega
      clear hp
      refine (HMAB.out _ HB12.out).mono ?_
      rintro e12 w13 ⟨rfl, hb⟩
      have HB13 := Lib.hid (HB12.out.trans (hb.mono HB12.out.size))
      clear hb
      simp only []
      go_wp2_with fail
      refine (HMBA.out _ HB13.out).mono ?_
      rintro e13 w14 ⟨rfl, hb⟩
      have HB14 := Lib.hid (HB13.out.trans (hb.mono HB13.out.size))
      clear hb
      simp only []
      go_wp2_with fail
      refine (HMAA'.out _ HB14.out).mono ?_
      rintro e14 w15 ⟨rfl, hb⟩
      have HB15 := Lib.hid (HB14.out.trans (hb.mono HB14.out.size))
      clear hb
      simp only []
      go_wp2_with fail
      refine (HMAB.out _ HB15.out).mono ?_
      rintro e15 w16 ⟨rfl, hb⟩
      have HB16 := Lib.hid (HB15.out.trans (hb.mono HB15.out.size))
      clear hb
      simp only []
      go_wp2_with fail
      go_ret
      refine ⟨?_, HB16.out⟩
      first
        | rfl
        | (show Ending.returned (.bool _) = _; simp; omega)
  · cases e <;> cases q
    · obtain rfl : na = 0 := by omega
      have hq := HE.out.2
      have y3 : ¬ (T : Int) < (N : Int) + (M : Int) := by have := of_decide_eq_false hq.symm; omega
      clear hq
      have hd : decide (0 < 0) = false := by simp
      have HM := HMAA.out
      rw [hd] at HM
      have HMAA' := Lib.hid HM
      clear HM hd HMAA
      clear hp
      refine (HMAB.out _ HB12.out).mono ?_
      rintro e12 w13 ⟨rfl, hb⟩
      have HB13 := Lib.hid (HB12.out.trans (hb.mono HB12.out.size))
      clear hb
      simp only []
      go_wp2_with fail
      refine (HMBA.out _ HB13.out).mono ?_
      rintro e13 w14 ⟨rfl, hb⟩
      have HB14 := Lib.hid (HB13.out.trans (hb.mono HB13.out.size))
      clear hb
      simp only []
      go_wp2_with fail
      refine (HMAA'.out _ HB14.out).mono ?_
      rintro e14 w15 ⟨rfl, hb⟩
      have HB15 := Lib.hid (HB14.out.trans (hb.mono HB14.out.size))
      clear hb
      simp only []
      by_cases y5 : (N : Int) < (M : Int)
      · go_wp2_with fail
        refine (HMAB.out _ HB15.out).mono ?_
        rintro e15 w16 ⟨rfl, hb⟩
        have HB16 := Lib.hid (HB15.out.trans (hb.mono HB15.out.size))
        clear hb
        simp only []
        go_wp2_with fail
        go_ret
        refine ⟨?_, HB16.out⟩
        first
          | rfl
          | (show Ending.returned (.bool _) = _; simp; omega)
      · go_wp2_with fail
        refine (HMAB.out _ HB15.out).mono ?_
        rintro e15 w16 ⟨rfl, hb⟩
        have HB16 := Lib.hid (HB15.out.trans (hb.mono HB15.out.size))
        clear hb
        simp only []
        go_wp2_with fail
        go_ret
        refine ⟨?_, HB16.out⟩
        first
          | rfl
          | (show Ending.returned (.bool _) = _; simp; omega)
    · obtain rfl : na = 0 := by omega
      have hq := HE.out.2
      have y3 : (T : Int) < (N : Int) + (M : Int) := by have := of_decide_eq_true hq.symm; omega
      clear hq
      have hd : decide (0 < 0) = false := by simp
      have HM := HMAA.out
      rw [hd] at HM
      have HMAA' := Lib.hid HM
      clear HM hd HMAA
      clear hp
      refine (HMAB.out _ HB12.out).mono ?_
      rintro e12 w13 ⟨rfl, hb⟩
      have HB13 := Lib.hid (HB12.out.trans (hb.mono HB12.out.size))
      clear hb
      simp only []
      go_wp2_with fail
      refine (HMBA.out _ HB13.out).mono ?_
      rintro e13 w14 ⟨rfl, hb⟩
      have HB14 := Lib.hid (HB13.out.trans (hb.mono HB13.out.size))
      clear hb
      simp only []
      go_wp2_with fail
      refine (HMAA'.out _ HB14.out).mono ?_
      rintro e14 w15 ⟨rfl, hb⟩
      have HB15 := Lib.hid (HB14.out.trans (hb.mono HB14.out.size))
      clear hb
      simp only []
      by_cases y5 : (N : Int) < (M : Int)
      · go_wp2_with fail
        refine (HMAB.out _ HB15.out).mono ?_
        rintro e15 w16 ⟨rfl, hb⟩
        have HB16 := Lib.hid (HB15.out.trans (hb.mono HB15.out.size))
        clear hb
        simp only []
        go_wp2_with fail
        go_ret
        refine ⟨?_, HB16.out⟩
        first
          | rfl
          | (show Ending.returned (.bool _) = _; simp; omega)
      · go_wp2_with fail
        refine (HMAB.out _ HB15.out).mono ?_
        rintro e15 w16 ⟨rfl, hb⟩
        have HB16 := Lib.hid (HB15.out.trans (hb.mono HB15.out.size))
        clear hb
        simp only []
        go_wp2_with fail
        go_ret
        refine ⟨?_, HB16.out⟩
        first
          | rfl
          | (show Ending.returned (.bool _) = _; simp; omega)
    · obtain rfl : na = 0 := by omega
      obtain ⟨x1, x2⟩ := HE.out.1 rfl
      have y1 : (N : Int) = (M : Int) := by omega
      have y2 : (T : Int) = (M : Int) := by omega
      clear x1 x2
      have hq := HE.out.2
      have y3 : ¬ (T : Int) < (N : Int) + (M : Int) := by have := of_decide_eq_false hq.symm; omega
      clear hq
      have hd : decide (0 < 0) = false := by simp
      have HM := HMAA.out
      rw [hd] at HM
      have HMAA' := Lib.hid HM
      clear HM hd HMAA
      clear hp
      refine (HMAB.out _ HB12.out).mono ?_
      rintro e12 w13 ⟨rfl, hb⟩
      have HB13 := Lib.hid (HB12.out.trans (hb.mono HB12.out.size))
      clear hb
      simp only []
      go_wp2_with fail
      refine (HMBA.out _ HB13.out).mono ?_
      rintro e13 w14 ⟨rfl, hb⟩
      have HB14 := Lib.hid (HB13.out.trans (hb.mono HB13.out.size))
      clear hb
      simp only []
      go_wp2_with fail
      refine (HMAA'.out _ HB14.out).mono ?_
      rintro e14 w15 ⟨rfl, hb⟩
      have HB15 := Lib.hid (HB14.out.trans (hb.mono HB14.out.size))
      clear hb
      simp only []
      go_wp2_with fail
      refine (HMAB.out _ HB15.out).mono ?_
      rintro e15 w16 ⟨rfl, hb⟩
      have HB16 := Lib.hid (HB15.out.trans (hb.mono HB15.out.size))
      clear hb
      simp only []
      go_wp2_with fail
      go_ret
      refine ⟨?_, HB16.out⟩
      first
        | rfl
        | (show Ending.returned (.bool _) = _; simp; omega)
    · obtain rfl : na = 0 := by omega
      obtain ⟨x1, x2⟩ := HE.out.1 rfl
      have y1 : (N : Int) = (M : Int) := by omega
      have y2 : (T : Int) = (M : Int) := by omega
      clear x1 x2
      have hq := HE.out.2
      have y3 : (T : Int) < (N : Int) + (M : Int) := by have := of_decide_eq_true hq.symm; omega
      clear hq
      have hd : decide (0 < 0) = false := by simp
      have HM := HMAA.out
      rw [hd] at HM
      have HMAA' := Lib.hid HM
      clear HM hd HMAA
      clear hp
      refine (HMAB.out _ HB12.out).mono ?_
      rintro e12 w13 ⟨rfl, hb⟩
      have HB13 := Lib.hid (HB12.out.trans (hb.mono HB12.out.size))
      clear hb
      simp only []
      go_wp2_with fail
      refine (HMBA.out _ HB13.out).mono ?_
      rintro e13 w14 ⟨rfl, hb⟩
      have HB14 := Lib.hid (HB13.out.trans (hb.mono HB13.out.size))
      clear hb
      simp only []
      go_wp2_with fail
      refine (HMAA'.out _ HB14.out).mono ?_
      rintro e14 w15 ⟨rfl, hb⟩
      have HB15 := Lib.hid (HB14.out.trans (hb.mono HB14.out.size))
      clear hb
      simp only []
      go_wp2_with fail
      refine (HMAB.out _ HB15.out).mono ?_
      rintro e15 w16 ⟨rfl, hb⟩
      have HB16 := Lib.hid (HB15.out.trans (hb.mono HB15.out.size))
      clear hb
      simp only []
      go_wp2_with fail
      go_ret
      refine ⟨?_, HB16.out⟩
      first
        | rfl
        | (show Ending.returned (.bool _) = _; simp; omega)
end Go.Proofs.YtmfolfjmajmamaaDoor.Al
