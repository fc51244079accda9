/-
  WALKS for FnUIDsAlike: impl.UIDsLen (12), impl.UIDsEqual (14), impl.UIDsMeet (15).
-/
import Derived.Test.YtmfolfjmajmamaaDoorTf
namespace Go.Proofs.YtmfolfjmajmamaaDoor.Al
open Go.RowKit Go.Maps Go.Proofs.YtmfolfjmajmamaaDoor.Ss

theorem grown_of_below {w w' : World} (h : Below w.heap.size w w') : w.grownBy w' none := ⟨h.os, h.tape, h.output, h.size, fun k hk _ => h.block k hk⟩
theorem SetV.below {B n : Nat} {h : List K} {v : Value} {w w' : World} (S : SetV B h n v w) (hb : Below w.heap.size w w') : SetV B h n v w' := by
  obtain ⟨m, D, hv, hm, ho, R⟩ := S
  exact ⟨m, D, hv, hm, ho.kept (grown_of_below hb) (by simp), R⟩

/-- 'types.NewEntityUIDSet(uids(a)...)' as two calls behind one another -/
def MkSet (v : Value) (h : List K) (w : World) : Prop :=
  Calls Tryd.prog 25 #[v] w fun e w' => ∃ v', e = .returned v' ∧ (Calls Tryd.prog 24 #[v'] w' fun e w3 => ∃ v3 n, e = .returned v3 ∧ SetV w'.heap.size h n v3 w3 ∧ Below w'.heap.size w' w3) ∧ Below w.heap.size w w'

theorem mkSet {v : Value} {n : Nat} {id : Nat → K} {w : World} (h : UAt v n id w) (hn : n ≤ 1000) : MkSet v (setN id n) w := by
  refine (mk_uids h hn).mono ?_
  rintro e w' ⟨v', rfl, hF, hb⟩
  refine ⟨v', rfl, (hF w' ⟨rfl, rfl, rfl, Nat.le_refl _, fun _ _ _ => rfl⟩).mono ?_, hb⟩
  rintro e w3 ⟨v3, rfl, hS, hb3⟩
  exact ⟨v3, n, rfl, hS, hb3⟩

theorem len12 {v : Value} {h : List K} {w : World} (M : MkSet v h w) :
    Calls Tryd.prog 12 #[v] w fun e w' => e = .returned (.int .i64 h.length) ∧ Below w.heap.size w w' := by
  go_enter Tryd.func12, Tryd.ntmps12
  go_wp2_with fail
  refine M.mono ?_
  rintro e w1 ⟨v1, rfl, M2, hb1⟩
  have HB1 := Lib.hid hb1
  clear hb1
  simp only []
  go_wp2_with fail
  refine M2.mono ?_
  rintro e w2 ⟨v2, n, rfl, ⟨m, D, rfl, _, ho, R⟩, hb2⟩
  have HB2 := Lib.hid (HB1.out.trans (hb2.mono HB1.out.size))
  have L := len26 m n D w2 ho
  rw [R.size] at L
  clear hb2 ho R
  simp only []
  go_wp2_with fail
  refine L.mono ?_
  rintro e w3 ⟨rfl, g⟩
  have HB3 := Lib.hid (HB2.out.grown g HB2.out.size (fun k e => by cases e))
  clear g
  simp only []
  go_wp2_with fail
  go_ret
  exact ⟨rfl, HB3.out⟩

instance (a b : List K) : Decidable (alikeL a b) := inferInstanceAs (Decidable (a.length = b.length ∧ ∀ x ∈ a, x ∈ b))
instance (a b : List K) : Decidable (meetL a b) := decidable_of_iff (∃ x ∈ a, x ∈ b) ⟨fun ⟨x, h1, h2⟩ => ⟨x, h1, h2⟩, fun ⟨x, h1, h2⟩ => ⟨x, h1, h2⟩⟩

theorem equal14 {va vb : Value} {n m : Nat} {ida idb : Nat → K} {w : World} (A : UAt va n ida w) (B : UAt vb m idb w) (hn : n ≤ 1000) (hm : m ≤ 1000) :
    Calls Tryd.prog 14 #[va, vb] w fun e w' => e = .returned (.bool (decide (alikeL (setN ida n) (setN idb m)))) ∧ Below w.heap.size w w' := by
  have M := mkSet A hn
  have HB := Lib.hid B
  clear A B
  go_enter Tryd.func14, Tryd.ntmps14
  go_wp2_with fail
  refine M.mono ?_
  rintro e w1 ⟨v1, rfl, M2, hb1⟩
  have HB1 := Lib.hid hb1
  clear hb1
  simp only []
  go_wp2_with fail
  refine M2.mono ?_
  rintro e w2 ⟨v2, n2, rfl, hS, hb2⟩
  have HB2 := Lib.hid (HB1.out.trans (hb2.mono HB1.out.size))
  have HS := Lib.hid hS
  have N := mkSet (HB.out.below HB2.out) hm
  clear hb2 hS
  simp only []
  go_wp2_with fail
  refine N.mono ?_
  rintro e w3 ⟨v3, rfl, N2, hb3⟩
  have HB3 := Lib.hid (HB2.out.trans (hb3.mono HB2.out.size))
  have HS3 := Lib.hid (HS.out.below hb3)
  clear hb3
  simp only []
  go_wp2_with fail
  refine N2.mono ?_
  rintro e w4 ⟨v4, n4, rfl, hS4, hb4⟩
  have HB4 := Lib.hid (HB3.out.trans (hb4.mono HB3.out.size))
  have E := eq27 _ _ _ _ _ _ _ _ w4 (HS3.out.below hb4) hS4
  clear hb4 hS4
  simp only []
  go_wp2_with fail
  refine E.mono ?_
  rintro e w5 ⟨⟨q, rfl, hq⟩, hb5⟩
  have HB5 := Lib.hid (And.intro (show q = decide (alikeL (setN ida n) (setN idb m)) by rw [Bool.eq_iff_iff, hq, decide_eq_true_iff]) (HB4.out.trans (hb5.mono HB4.out.size)))
  clear hb5 hq
  simp only []
  go_wp2_with fail
  go_ret
  refine ⟨?_, HB5.out.2⟩
  rw [← HB5.out.1]
  rfl

theorem meet15 {va vb : Value} {n m : Nat} {ida idb : Nat → K} {w : World} (A : UAt va n ida w) (B : UAt vb m idb w) (hn : n ≤ 1000) (hm : m ≤ 1000) :
    Calls Tryd.prog 15 #[va, vb] w fun e w' => e = .returned (.bool (decide (meetL (setN ida n) (setN idb m)))) ∧ Below w.heap.size w w' := by
  have M := mkSet A hn
  have HB := Lib.hid B
  clear A B
  go_enter Tryd.func15, Tryd.ntmps15
  go_wp2_with fail
  refine M.mono ?_
  rintro e w1 ⟨v1, rfl, M2, hb1⟩
  have HB1 := Lib.hid hb1
  clear hb1
  simp only []
  go_wp2_with fail
  refine M2.mono ?_
  rintro e w2 ⟨v2, n2, rfl, hS, hb2⟩
  have HB2 := Lib.hid (HB1.out.trans (hb2.mono HB1.out.size))
  have HS := Lib.hid hS
  have N := mkSet (HB.out.below HB2.out) hm
  clear hb2 hS
  simp only []
  go_wp2_with fail
  refine N.mono ?_
  rintro e w3 ⟨v3, rfl, N2, hb3⟩
  have HB3 := Lib.hid (HB2.out.trans (hb3.mono HB2.out.size))
  have HS3 := Lib.hid (HS.out.below hb3)
  clear hb3
  simp only []
  go_wp2_with fail
  refine N2.mono ?_
  rintro e w4 ⟨v4, n4, rfl, hS4, hb4⟩
  have HB4 := Lib.hid (HB3.out.trans (hb4.mono HB3.out.size))
  have E := meet28 _ _ _ _ _ _ _ _ w4 (HS3.out.below hb4) hS4
  clear hb4 hS4
  simp only []
  go_wp2_with fail
  refine E.mono ?_
  rintro e w5 ⟨⟨q, rfl, hq⟩, hb5⟩
  have HB5 := Lib.hid (And.intro (show q = decide (meetL (setN ida n) (setN idb m)) by rw [Bool.eq_iff_iff, hq, decide_eq_true_iff]) (HB4.out.trans (hb5.mono HB4.out.size)))
  clear hb5 hq
  simp only []
  go_wp2_with fail
  go_ret
  refine ⟨?_, HB5.out.2⟩
  rw [← HB5.out.1]
  rfl
end Go.Proofs.YtmfolfjmajmamaaDoor.Al
