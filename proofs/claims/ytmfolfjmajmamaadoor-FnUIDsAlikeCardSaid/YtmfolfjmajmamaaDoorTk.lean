/-
  FnUIDsAlike: the law (4), whatever slices came in. Printed in part by mkTk.py.
-/
import Derived.Test.YtmfolfjmajmamaaDoorTj
namespace Go.Proofs.YtmfolfjmajmamaaDoor.Al
open Go.RowKit Go.Maps Go.Proofs.YtmfolfjmajmamaaDoor.Ss Go.WideShapes Go.ChangeShapes Go.Deep

set_option maxHeartbeats 1000000 in
/-- more than 200 identifiers -/
theorem law4_big (aa ab : Option Addr) (na nb ca cb : Nat) (ida idb : Nat → K) (W : World) (UA : UAt (.slice aa na ca) na ida W) (UB : UAt (.slice ab nb cb) nb idb W) (hbig : ¬ (na ≤ 200 ∧ nb ≤ 200)) :
    Calls Tryd.prog 4 #[.slice aa na ca, .slice ab nb cb] W fun e w' => e = .returned (.bool true) ∧ Below W.heap.size W w' := by
  have FA := Lib.hid (fun (w : World) (h : Below W.heap.size W w) => fitsU (UA.below h))
  have FB := Lib.hid (fun (w : World) (h : Below W.heap.size W w) => fitsU (UB.below h))
  have GA := Lib.hid (fun (w : World) (h : Below W.heap.size W w) => fewU (UA.below h))
  have GB := Lib.hid (fun (w : World) (h : Below W.heap.size W w) => fewU (UB.below h))
  have HBG := Lib.hid hbig
  clear UA UB hbig
  have HB0 := Lib.hid (Below.refl W.heap.size W)
  go_enter Tryd.func4, Tryd.ntmps4
  go_wp2_with fail
  refine (FA.out _ HB0.out).mono ?_
  rintro e0 w1 ⟨⟨b, rfl⟩, hb⟩
  have HB1 := Lib.hid (HB0.out.trans (hb.mono HB0.out.size))
  clear hb
  simp only []
  cases b
  · go_wp2_with fail
    go_ret
    exact ⟨rfl, HB1.out⟩
  go_wp2_with fail
  refine (FB.out _ HB1.out).mono ?_
  rintro e1 w2 ⟨⟨b, rfl⟩, hb⟩
  have HB2 := Lib.hid (HB1.out.trans (hb.mono HB1.out.size))
  clear hb
  simp only []
  cases b
  · go_wp2_with fail
    go_ret
    exact ⟨rfl, HB2.out⟩
  go_wp2_with fail
  refine (GA.out _ HB2.out).mono ?_
  rintro e2 w3 ⟨⟨b, rfl, hf⟩, hb⟩
  have HB3 := Lib.hid (HB2.out.trans (hb.mono HB2.out.size))
  have HF3 := Lib.hid hf
  clear hf
  clear hb
  simp only []
  cases b
  · go_wp2_with fail
    go_ret
    exact ⟨rfl, HB3.out⟩
  go_wp2_with fail
  refine (GB.out _ HB3.out).mono ?_
  rintro e3 w4 ⟨⟨b, rfl, hf⟩, hb⟩
  have HB4 := Lib.hid (HB3.out.trans (hb.mono HB3.out.size))
  have HF4 := Lib.hid hf
  clear hf
  clear hb
  simp only []
  cases b
  · go_wp2_with fail
    go_ret
    exact ⟨rfl, HB4.out⟩
  exact absurd ⟨HF3.out trivial, HF4.out rfl⟩ HBG.out

theorem law4 (va vb : Value) (na nb : Nat) (ida idb : Nat → K) (W : World) (UA : UAt va na ida W) (UB : UAt vb nb idb W) :
    Calls Tryd.prog 4 #[va, vb] W fun e w' => e = .returned (.bool true) ∧ Below W.heap.size W w' := by
  have UA0 := UA
  have UB0 := UB
  obtain ⟨aa, ca, rfl, _, hsa⟩ := UA0
  obtain ⟨ab, cb, rfl, _, hsb⟩ := UB0
  by_cases hs : na ≤ 200 ∧ nb ≤ 200
  · have nA := setN_nodup ida na
    have nB := setN_nodup idb nb
    have nU := setN_nodup (joinF na ida idb) (na + nb)
    have hm := setN_join na nb ida idb
    have lA := setN_length ida na
    have lB := setN_length idb nb
    refine law4_core aa ab na nb ca cb (setN ida na).length (setN idb nb).length (setN (joinF na ida idb) (na + nb)).length ida idb (decide (alikeL (setN ida na) (setN idb nb))) (decide (meetL (setN ida na) (setN idb nb))) W UA UB ?_ ?_ ?_ ?_ ?_ ?_ ?_ ?_ ?_ (by omega) (by omega) (both_le nU hm) (both_left nA hm) (both_right nB hm) ?_ (both_meet nA nB nU hm)
    · exact fun w h => len12 (mkSet (UA.below h) (by omega))
    · exact fun w h => len12 (mkSet (UB.below h) (by omega))
    · exact fun w v _ hu => len12 (mkSet hu (by omega))
    · exact fun w h => equal14 (UA.below h) (UB.below h) (by omega) (by omega)
    · intro w h
      have := equal14 (UA.below h) (UA.below h) (by omega) (by omega)
      rw [decide_eq_true (alike_self (setN ida na))] at this
      exact this
    · intro w h
      have := equal14 (UB.below h) (UA.below h) (by omega) (by omega)
      rw [alike_comm nA nB] at this
      exact this
    · exact fun w h => meet15 (UA.below h) (UB.below h) (by omega) (by omega)
    · intro w h
      have := meet15 (UB.below h) (UA.below h) (by omega) (by omega)
      rw [meet_comm] at this
      exact this
    · intro w h
      have := meet15 (UA.below h) (UA.below h) (by omega) (by omega)
      rw [meet_self, decide_eq_decide.2 (setN_pos ida na)] at this
      exact this
    · intro he
      have hal := of_decide_eq_true he
      exact ⟨hal.1, both_alike nA nU hm hal⟩
  · exact law4_big aa ab na nb ca cb ida idb W UA UB hs

/-! ### the slices that came in -/
theorem two_cells_of {w : World} {B : Nat} {a : Addr} {x y : Value} (h : w.cells? B a 2 = some [x, y]) : w.cell? a = some x ∧ w.cell? (a.add 1) = some y := by
  unfold World.cells? at h
  split at h
  · have e : List.range 2 = [0, 1] := rfl
    rw [e] at h
    simp only [List.mapM_cons, List.mapM_nil] at h
    have a0 : a.add 0 = a := by simp [Addr.add]
    rw [a0] at h
    cases h0 : w.cell? a <;> cases h1 : w.cell? (a.add 1) <;> simp [h0, h1] at h
    obtain ⟨rfl, rfl⟩ := h
    exact ⟨rfl, rfl⟩
  · cases h

def w_id (w : World) (a : Addr) (q : K) : Prop := w.cell? a = some (.string q.t) ∧ w.cell? (a.add 1) = some (.string q.i) ∧ small q
instance : Inhabited K := ⟨⟨ByteArray.empty, ByteArray.empty⟩⟩

theorem open_id {H : Type} {enc : TypeId × Value → H} {w : World} {B n : Nat} {sp : Nat → Bool} {held : Bool} {a : Addr} {cs : List Value} {D : DataW H × List MemPlace} (hc : w.cells? B a 2 = some cs) (h : DataW.trod enc Tryd.prog w B sp held n 29 cs = some D) :
    ∃ (q : K), w_id w a q := by
  obtain ⟨z0, z1, m', _, hl, g0, g1⟩ := trod_struct2 Tryd.underlying29 h
  rw [cells2] at hl
  obtain ⟨x, y, rfl⟩ : ∃ x y, cs = [x, y] := by
    match cs, hl with
    | [x, y], _ => exact ⟨x, y, rfl⟩
  simp only [cells9] at g0 g1
  obtain ⟨s, hs, _, ls⟩ := DataW.trod_string Tryd.underlying9 g0
  obtain ⟨i, hi, _, li⟩ := DataW.trod_string Tryd.underlying9 g1
  simp at hs hi
  subst hs
  subst hi
  obtain ⟨c0, c1⟩ := two_cells_of hc
  exact ⟨⟨s, i⟩, c0, c1, ls, li⟩

theorem open_ids {H : Type} {enc : TypeId × Value → H} {W : World} {v : Value} {d : DataW H} {p : List MemPlace} (hok : Value.okWide Tryd.prog W .any 0 26 v) (h : DataW.Trod enc Tryd.prog W 0 (fun _ => true) true 26 v d p) :
    ∃ n id, UAt v n id W := by
  obtain ⟨a0, len, cap, rfl⟩ := okWide_slice Tryd.underlying26 hok
  obtain ⟨fuel, hf⟩ := h
  rcases open_slice Tryd.underlying26 hf with ⟨hcs, _⟩ | ⟨a, len', cap', m, n, D, Pl, hcs, _, hl, hm, hmm, _, hx⟩
  · simp [Value.cells] at hcs
    obtain ⟨rfl, rfl, rfl⟩ := hcs
    exact ⟨0, fun _ => default, none, 0, rfl, .inl rfl, fun k hk => absurd hk (Nat.not_lt_zero _)⟩
  · simp [Value.cells] at hcs
    obtain ⟨rfl, rfl, rfl⟩ := hcs
    simp only [if_true] at hmm
    by_cases h0 : len = 0
    · subst h0
      exact ⟨0, fun _ => default, some a, cap, rfl, .inl rfl, fun k hk => absurd hk (Nat.not_lt_zero _)⟩
    rw [cells2] at hx
    obtain ⟨F, hF⟩ := choose_lt (α := K) (p := fun i q => w_id W (a.add (i * 2)) q) (n := len) (fun i hi => by
      obtain ⟨cs, h1, h2⟩ := hx i (by omega)
      exact open_id h1 h2)
    obtain ⟨b, off, spot⟩ := a
    have hc := (hF 0 (by omega)).1
    have hspot : spot = none := by simpa [Addr.add] using World.cell?_spot hc
    subst hspot
    have hadd : ∀ i, (⟨b, off, none⟩ : Addr).add i = ⟨b, off + i, none⟩ := fun i => by unfold Addr.add; split <;> simp_all
    refine ⟨len, F, some ⟨b, off, none⟩, cap, rfl, .inr ⟨b, off, rfl, World.block_lt_of_cell? W _ hc, ?_⟩, fun k hk => (hF k hk).2.2⟩
    intro k hk
    obtain ⟨c0, c1, _⟩ := hF k hk
    rw [hadd] at c0 c1
    have hadd2 : (⟨b, off + k * 2, none⟩ : Addr).add 1 = ⟨b, off + k * 2 + 1, none⟩ := by unfold Addr.add; split <;> simp_all
    rw [hadd2] at c1
    exact ⟨c0, c1⟩
end Go.Proofs.YtmfolfjmajmamaaDoor.Al
