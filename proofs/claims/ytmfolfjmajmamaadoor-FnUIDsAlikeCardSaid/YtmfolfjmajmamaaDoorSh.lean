/-
  FnUIDStepsList: the list of identifiers that the law holds in a row of its own: slices.Index and slices.Delete over it.
-/
import Derived.Test.YtmfolfjmajmamaaDoorSg
namespace Go.Proofs.YtmfolfjmajmamaaDoor.Ss
open Go.RowKit Go.Maps

def kcells (x : K) : List Value := [.string x.t, .string x.i]
def flatK (h : List K) : List Value := h.flatMap kcells
theorem flatK_length (h : List K) : (flatK h).length = h.length * 2 := by
  induction h with
  | nil => rfl
  | cons x h ih => simp [flatK, kcells] at ih ⊢; omega
theorem flatK_append (a b : List K) : flatK (a ++ b) = flatK a ++ flatK b := by simp [flatK]
theorem flatK_one (x : K) : ∀ u ∈ kcells x, u.oneCell' = true := by
  intro u hu
  simp [kcells] at hu
  rcases hu with rfl | rfl <;> rfl
theorem flatK_oneCell (h : List K) : ∀ u ∈ flatK h, u.oneCell' = true := by
  intro u hu
  obtain ⟨x, _, hx⟩ := List.mem_flatMap.1 hu
  exact flatK_one x u hx

def nth (h : List K) (j : Nat) : K := h.getD j ⟨ByteArray.empty, ByteArray.empty⟩
theorem flatK_get : ∀ (h : List K) (j : Nat), j < h.length → (flatK h)[j * 2]? = some (.string (nth h j).t) ∧ (flatK h)[j * 2 + 1]? = some (.string (nth h j).i)
  | [], j, hj => by simp at hj
  | x :: h, 0, _ => by simp [flatK, kcells, nth]
  | x :: h, j + 1, hj => by
    have ih := flatK_get h j (by simpa using hj)
    have e : flatK (x :: h) = kcells x ++ flatK h := rfl
    rw [e, show (j + 1) * 2 = (kcells x).length + j * 2 by simp [kcells]; omega, List.getElem?_append_right (by omega), show (kcells x).length + j * 2 + 1 = (kcells x).length + (j * 2 + 1) by omega, List.getElem?_append_right (by omega)]
    simpa [nth] using ih

/-- the row holds the list -/
def HRow (B : Nat) (h : List K) (v : Value) (w : World) : Prop := w.ownsRow B 29 2 v h.length (flatK h)

theorem HRow.none {B : Nat} {h : List K} {v : Value} {w w' : World} (H : HRow B h v w) (g : w.grownBy w' none) : HRow B h v w' :=
  World.ownsRow.kept H g (by cases v.ownBlock <;> simp)

theorem HRow.open {B : Nat} {h : List K} {v : Value} {w : World} (H : HRow B h v w) (hne : 0 < h.length) : ∃ g cap cur, v = .slice (some ⟨g, 0, .none⟩) h.length cap ∧ B ≤ g ∧ w.heap[g]? = some (.cells cur 29 (0, 0)) ∧ h.length ≤ cap ∧ cap ≤ 9223372036854775807 ∧ cur.size = cap * 2 ∧ cur.toList.take (h.length * 2) = flatK h := by
  rcases H.2 with ⟨_, h0⟩ | ⟨g, cap, cur, hv, hb, hg, h1, h2, h3, h4⟩
  · omega
  · exact ⟨g, cap, cur, hv, hb, hg, h1, by unfold maxLen at h2; omega, h3, h4⟩

theorem HRow.cells {h : List K} {w : World} {g : Nat} {cur : Array Value} (hg : w.heap[g]? = some (.cells cur 29 (0, 0))) (ht : cur.toList.take (h.length * 2) = flatK h) : HeldAt g h.length (nth h) w := by
  intro j hj
  have hc : ∀ i, w.cell? ⟨g, i, .none⟩ = cur[i]? := fun i => by simp [World.cell?, hg]
  have h1 : ∀ i, i < h.length * 2 → cur[i]? = (flatK h)[i]? := fun i hi => by
    rw [← ht, List.getElem?_take, if_pos hi]
    simp
  obtain ⟨a, b⟩ := flatK_get h j hj
  rw [hc, hc, h1 _ (by omega), h1 _ (by omega)]
  exact ⟨a, b⟩

theorem hidx_out {B : Nat} {h : List K} {v : Value} {w : World} (H : HRow B h v w) (x : K) (hx : x ∉ h) (hl : h.length ≤ 200) :
    Calls Tryd.prog 8 #[v, kv x] w fun e w' => e = .returned (.int .i64 (-1)) ∧ w.grownBy w' none := by
  rcases Nat.eq_zero_or_pos h.length with h0 | h0
  · obtain ⟨a, c, rfl⟩ : ∃ a c, v = .slice a 0 c := by
      rcases H.2 with ⟨hv, _⟩ | ⟨g, cap, cur, hv, _⟩
      · exact ⟨_, _, hv⟩
      · rw [h0] at hv
        exact ⟨_, _, hv⟩
    exact idx8_none a c x w
  · obtain ⟨g, cap, cur, rfl, hB, hg, h1, h2, h3, h4⟩ := H.open h0
    have hlt := (Array.getElem?_eq_some_iff.1 hg).1
    have := idx8 g h.length cap hl (nth h) x h.length w hlt (HRow.cells hg h4) (Nat.le_refl _) (fun j hj e => hx (by
      rw [← e]
      simp [nth, hj])) (fun hh => absurd hh (Nat.lt_irrefl _))
    simpa using this

theorem hidx_in {B : Nat} {h1 h2 : List K} {x : K} {v : Value} {w : World} (H : HRow B (h1 ++ x :: h2) v w) (hx : x ∉ h1) (hl : (h1 ++ x :: h2).length ≤ 200) :
    Calls Tryd.prog 8 #[v, kv x] w fun e w' => e = .returned (.int .i64 h1.length) ∧ w.grownBy w' none := by
  have h0 : 0 < (h1 ++ x :: h2).length := by simp; omega
  have hlt' : h1.length < (h1 ++ x :: h2).length := by simp
  obtain ⟨g, cap, cur, rfl, hB, hg, k1, k2, k3, k4⟩ := H.open h0
  have hlt := (Array.getElem?_eq_some_iff.1 hg).1
  have := idx8 g (h1 ++ x :: h2).length cap hl (nth (h1 ++ x :: h2)) x h1.length w hlt (HRow.cells hg k4) (by omega) (fun j hj e => hx (by
      rw [← e]
      simp [nth, List.getElem?_append_left hj, hj])) (fun _ => by simp [nth])
  rw [if_pos hlt'] at this
  exact this

theorem hdel {B : Nat} {h1 h2 : List K} {x : K} {v : Value} {w : World} (H : HRow B (h1 ++ x :: h2) v w) (hl : (h1 ++ x :: h2).length ≤ 200) (hBw : B ≤ w.heap.size) :
    Calls Tryd.prog 9 #[v, .int .i64 h1.length, .int .i64 ((h1.length : Int) + 1)] w fun e w' => ∃ v', e = .returned v' ∧ HRow B (h1 ++ h2) v' w' ∧ Below B w w' := by
  have h0 : 0 < (h1 ++ x :: h2).length := by simp; omega
  obtain ⟨g, cap, cur, rfl, hB, hg, k1, k2, k3, k4⟩ := H.open h0
  have hp : (h1 ++ x :: h2).length = (h1 ++ h2).length + 1 := by simp; omega
  have hf : flatK (h1 ++ x :: h2) = flatK h1 ++ kcells x ++ flatK h2 := by simp [flatK]
  rw [hp] at k1 hl k4 ⊢
  rw [hf] at k4
  refine (del9 g (h1 ++ h2).length cap h1.length cur w hg k3 k1 k2 (by simp) (by omega) (flatK h1) (kcells x) (flatK h2) k4 (flatK_length h1) rfl (flatK_oneCell h2)).mono ?_
  rintro e w' ⟨rfl, ⟨cur', c1, c2, c3⟩, hgr⟩
  refine ⟨_, rfl, ⟨flatK_length _, .inr ⟨g, cap, cur', rfl, hB, c1, by omega, by unfold maxLen; omega, by omega, ?_⟩⟩, (Below.refl B w).grown hgr hBw (fun k e => by cases e; exact hB)⟩
  rw [c3, flatK_append]
end Go.Proofs.YtmfolfjmajmamaaDoor.Ss
