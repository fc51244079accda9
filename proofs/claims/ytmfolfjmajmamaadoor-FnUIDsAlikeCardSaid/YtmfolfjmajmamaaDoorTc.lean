/-
  WALKS for FnUIDsAlike: Immutable (30), NewEntityUIDSet (24); a set out of a slice that came in.
-/
import Derived.Test.YtmfolfjmajmamaaDoorTb
namespace Go.Proofs.YtmfolfjmajmamaaDoor.Al
open Go.RowKit Go.Maps Go.Proofs.YtmfolfjmajmamaaDoor.Ss

theorem from33_none (a : Option Addr) (c : Nat) (w : World) :
    Calls Tryd.prog 33 #[.slice a 0 c] w fun e w' => ∃ b, e = .returned (.pointer (some ⟨b, 0, none⟩)) ∧ SetM w.heap.size b [] 0 w' ∧ Below w.heap.size w w' := by
  have M0 := make34 w.heap.size 0 (w.alloc (.cells #[.int .i64 0] 3)) (by
    simp only [World.cell?]
    rw [heap_alloc_new w _]
    rfl)
  have e1 : (w.alloc (.cells #[.int .i64 0] 3)).heap.size = w.heap.size + 1 := by simp
  have hS := setM_made (w.alloc (.cells #[.int .i64 0] 3))
  rw [e1] at M0 hS
  have HS := Lib.hid hS
  clear hS
  go_enter Tryd.func33, Tryd.ntmps33
  go_wp2_with fail
  refine M0.mono ?_
  rintro e w1 ⟨rfl, hw1⟩
  rw [← hw1] at HS
  have HB1 := Lib.hid (show Below w.heap.size w w1 by rw [hw1]; exact (((Below.refl w.heap.size w).alloc (Nat.le_refl _) _).alloc (by simp) _).alloc (by simp; omega) _)
  clear hw1
  simp only []
  go_wp2_with fail
  refine wp_loop_rounds 1 ?_
  rw [rounds_succ]
  go_wp2_with fail
  go_ret
  obtain ⟨a, m, D, hm, r⟩ := HS.out
  exact ⟨_, rfl, ⟨by omega, m, D, by omega, r⟩, HB1.out⟩

/-- a set's value: its map holds just the list -/
def SetV (B : Nat) (h : List K) (n : Nat) (v : Value) (w : World) : Prop :=
  ∃ m D, v = .agg #[.map (some m)] ∧ B ≤ m ∧ w.ownsMap Tryd.prog 46 (unitElem (H := Unit)) m n D ∧ Rep D h

theorem imm30 (v : Value) (h : List K) (n : Nat) (w : World)
    (F : ∀ w' : World, w.grownBy w' none → Calls Tryd.prog 33 #[v] w' fun e w'' => ∃ b, e = .returned (.pointer (some ⟨b, 0, none⟩)) ∧ SetM w'.heap.size b h n w'' ∧ Below w'.heap.size w' w'') :
    Calls Tryd.prog 30 #[v] w fun e w' => ∃ v', e = .returned v' ∧ SetV w.heap.size h n v' w' ∧ Below w.heap.size w w' := by
  have F0 := F (w.alloc (.cells #[.map none] 50)) (World.grownBy_alloc _ _ _)
  clear F
  go_enter Tryd.func30, Tryd.ntmps30
  go_wp2_with fail
  refine F0.mono ?_
  rintro e w1 ⟨b, rfl, ⟨hB, m, D, hm, hb, hown, R⟩, hbl⟩
  have e1 : (w.alloc (.cells #[.map none] 50)).heap.size = w.heap.size + 1 := by simp
  rw [e1] at hbl hm hB
  have hnew : w1.heap[w.heap.size]? = some (.cells #[.map none] 50 (0, 0)) := by
    rw [hbl.block w.heap.size (by omega)]
    exact heap_alloc_new w _
  have c0 : w1.cell? ⟨b, 0, none⟩ = some (.map (some m)) := by simp [World.cell?, hb]
  have c1 : w1.cell? ⟨w.heap.size, 0, none⟩ = some (.map none) := by simp [World.cell?, hnew]
  have cS : (w1.setCell ⟨w.heap.size, 0, none⟩ (.map (some m))).cell? ⟨w.heap.size, 0, none⟩ = some (.map (some m)) := by
    simp [World.cell?, World.setCell, Array.getElem?_modify, hnew]
  have f1 : w1.frozen? ⟨w.heap.size, 0, none⟩ = false := by simp [World.frozen?, hnew]
  have HZ := Lib.hid (And.intro (hown.setCell (a := ⟨w.heap.size, 0, none⟩) (by show m ≠ w.heap.size; omega) (.map (some m))) ((((Below.refl w.heap.size w).alloc (Nat.le_refl _) (.cells #[.map none] 50)).trans (hbl.mono (by omega))).setCell (p := ⟨w.heap.size, 0, none⟩) (Nat.le_refl _) (.map (some m))))
  have HM := Lib.hid (And.intro hm R)
  clear hb hown hbl hnew hm R hB
  simp only []
  go_wp2_with fail
  refine bodyPost_ret (v := .agg #[.map (some m)]) (by simp [results, Tryd.results30, go_sem, cS]) rfl ?_
  exact ⟨_, rfl, ⟨m, D, rfl, by have := HM.out.1; omega, HZ.out.1, HM.out.2⟩, HZ.out.2⟩

theorem new24 (v : Value) (h : List K) (n : Nat) (w : World)
    (F : ∀ w' : World, w.grownBy w' none → Calls Tryd.prog 33 #[v] w' fun e w'' => ∃ b, e = .returned (.pointer (some ⟨b, 0, none⟩)) ∧ SetM w'.heap.size b h n w'' ∧ Below w'.heap.size w' w'') :
    Calls Tryd.prog 24 #[v] w fun e w' => ∃ v', e = .returned v' ∧ SetV w.heap.size h n v' w' ∧ Below w.heap.size w w' := by
  have F0 := imm30 v h n (w.alloc (.cells #[.map none] 50)) (fun w' g => F w' (grown_trans (World.grownBy_alloc _ _ _) g))
  clear F
  go_enter Tryd.func24, Tryd.ntmps24
  go_wp2_with fail
  refine F0.mono ?_
  rintro e w1 ⟨v', rfl, ⟨m, D, rfl, hm, hown, R⟩, hbl⟩
  have e1 : (w.alloc (.cells #[.map none] 50)).heap.size = w.heap.size + 1 := by simp
  rw [e1] at hbl hm
  have hnew : w1.heap[w.heap.size]? = some (.cells #[.map none] 50 (0, 0)) := by
    rw [hbl.block w.heap.size (by omega)]
    exact heap_alloc_new w _
  have c1 : w1.cell? ⟨w.heap.size, 0, none⟩ = some (.map none) := by simp [World.cell?, hnew]
  have cS : (w1.setCell ⟨w.heap.size, 0, none⟩ (.map (some m))).cell? ⟨w.heap.size, 0, none⟩ = some (.map (some m)) := by
    simp [World.cell?, World.setCell, Array.getElem?_modify, hnew]
  have f1 : w1.frozen? ⟨w.heap.size, 0, none⟩ = false := by simp [World.frozen?, hnew]
  have HZ := Lib.hid (And.intro (hown.setCell (a := ⟨w.heap.size, 0, none⟩) (by show m ≠ w.heap.size; omega) (.map (some m))) ((((Below.refl w.heap.size w).alloc (Nat.le_refl _) (.cells #[.map none] 50)).trans (hbl.mono (by omega))).setCell (p := ⟨w.heap.size, 0, none⟩) (Nat.le_refl _) (.map (some m))))
  have HM := Lib.hid (And.intro hm R)
  clear hown hbl hnew hm R
  simp only []
  go_wp2_with fail
  refine bodyPost_ret (v := .agg #[.map (some m)]) (by simp [results, Tryd.results24, go_sem, cS]) rfl ?_
  exact ⟨_, rfl, ⟨m, D, rfl, by have := HM.out.1; omega, HZ.out.1, HM.out.2⟩, HZ.out.2⟩

/-! ### a slice of identifiers that came in -/
/-- v is a slice that holds the identifiers of the list -/
def UAt (v : Value) (n : Nat) (id : Nat → K) (w : World) : Prop :=
  ∃ a c, v = .slice a n c ∧ (n = 0 ∨ ∃ g off, a = some ⟨g, off, none⟩ ∧ g < w.heap.size ∧ IdsAt g off n id w) ∧ ∀ k, k < n → small (id k)

theorem UAt.below {v : Value} {n : Nat} {id : Nat → K} {w w' : World} (h : UAt v n id w) (hb : Below w.heap.size w w') : UAt v n id w' := by
  obtain ⟨a, c, hv, h0 | ⟨g, off, ha, hg, hi⟩, hs⟩ := h
  · exact ⟨a, c, hv, .inl h0, hs⟩
  · exact ⟨a, c, hv, .inr ⟨g, off, ha, Nat.lt_of_lt_of_le hg hb.size, hi.below hb hg⟩, hs⟩

theorem cells_ids {n g : Nat} {id : Nat → K} {w : World} {cur : Array Value} (hg : w.heap[g]? = some (.cells cur 46 (0, 0))) (ht : cur.toList.take (n * 2) = flatK (idsL id n)) : IdsAt g 0 n id w := by
  intro j hj
  have hc : ∀ i, w.cell? ⟨g, i, none⟩ = cur[i]? := fun i => by simp [World.cell?, hg]
  have h1 : ∀ i, i < n * 2 → cur[i]? = (flatK (idsL id n))[i]? := fun i hi => by
    rw [← ht, List.getElem?_take, if_pos hi]
    simp
  obtain ⟨a, b⟩ := flatK_get (idsL id n) j (by rw [idsL_length]; exact hj)
  have e : nth (idsL id n) j = id j := by simp [nth, idsL, hj]
  rw [e] at a b
  simp only [Nat.zero_add]
  rw [hc, hc, h1 _ (by omega), h1 _ (by omega)]
  exact ⟨a, b⟩

/-- 'types.NewEntityUIDSet(uids(a)...)', whatever the world in which the second call is made -/
theorem mk_uids {v : Value} {n : Nat} {id : Nat → K} {w : World} (h : UAt v n id w) (hn : n ≤ 1000) :
    Calls Tryd.prog 25 #[v] w fun e w' => ∃ v', e = .returned v' ∧ (∀ w'' : World, w'.grownBy w'' none → Calls Tryd.prog 24 #[v'] w'' fun e w3 => ∃ v3, e = .returned v3 ∧ SetV w''.heap.size (setN id n) n v3 w3 ∧ Below w''.heap.size w'' w3) ∧ Below w.heap.size w w' := by
  obtain ⟨a, c, rfl, h0 | ⟨g, off, rfl, hg, hi⟩, hs⟩ := h
  · subst h0
    refine (uids25_none a c w).mono ?_
    rintro e w' ⟨rfl, rfl⟩
    exact ⟨_, rfl, fun w'' g => new24 _ [] 0 w'' (fun w3 g3 => from33_none none 0 w3), Below.refl _ _⟩
  · refine (uids25 g off n c id w hn hg hi).mono ?_
    rintro e w' ⟨v', rfl, hown, hb⟩
    refine ⟨v', rfl, fun w'' g => new24 v' (setN id n) n w'' (fun w3 g3 => ?_), hb⟩
    have hown3 := hown.kept (grown_trans g g3) (by cases Value.ownBlock v' <;> simp)
    rcases hown3.2 with ⟨rfl, hn0⟩ | ⟨gg, cap, cur, rfl, hbg, hgg, _, _, _, ht⟩
    · subst hn0
      exact from33_none none 0 w3
    · exact from33 gg n cap id w3 hn (Array.getElem?_eq_some_iff.1 hgg).1 (cells_ids hgg ht) hs
end Go.Proofs.YtmfolfjmajmamaaDoor.Al
