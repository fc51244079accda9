/-
  WALKS for FnUIDStepsList: slices.Delete (9) of one identifier out of a row of the call's own.
-/
import Derived.Test.YtmfolfjmajmamaaDoorSf
import Derived.Laws.IdiomCopy
import Derived.Deep.RegionLaw
namespace Go.Proofs.YtmfolfjmajmamaaDoor.Ss
open Go.RowKit Go.Maps

theorem setCells_heap (g : Nat) (t : TypeId) (fz : Nat × Nat) : ∀ (vs : List Value) (o : Nat) (cur : Array Value) (w : World), w.heap[g]? = some (.cells cur t fz) → o + vs.length ≤ cur.size →
    ∃ cur', (w.setCells g o vs).heap[g]? = some (.cells cur' t fz) ∧ cur'.toList = cur.toList.take o ++ vs ++ cur.toList.drop (o + vs.length)
  | [], o, cur, w, hg, _ => ⟨cur, hg, by simp⟩
  | v :: r, o, cur, w, hg, hl => by
    have h1 : (w.setCell ⟨g, o, none⟩ v).heap[g]? = some (.cells (cur.setIfInBounds o v) t fz) := by
      simp [World.setCell, Array.getElem?_modify, hg]
    obtain ⟨cur', h2, h3⟩ := setCells_heap g t fz r (o + 1) (cur.setIfInBounds o v) _ h1 (by simp at hl ⊢; omega)
    refine ⟨cur', h2, ?_⟩
    rw [h3]
    have e := list_seg_step cur.toList o v r (by simp at hl ⊢; omega)
    simpa [Array.toList_setIfInBounds, Nat.add_assoc] using e

theorem setCells_grown (g : Nat) : ∀ (vs : List Value) (o : Nat) (w : World), w.grownBy (w.setCells g o vs) (some g)
  | [], o, w => ⟨rfl, rfl, rfl, Nat.le_refl _, fun _ _ _ => rfl⟩
  | v :: r, o, w => by
    have h1 : w.grownBy (w.setCell ⟨g, o, none⟩ v) (some g) := ⟨rfl, rfl, rfl, by simp [World.setCell], fun k _ hk => Below.heap_setCell _ _ _ _ (fun e => hk (by rw [e]))⟩
    exact grown_trans h1 (setCells_grown g r (o + 1) (w.setCell ⟨g, o, none⟩ v))

theorem info29 : (Tryd.prog.info? 29).map (fun i => (i.zero, i.size, i.bytes)) = some (some (.agg #[.string ⟨#[]⟩, .string ⟨#[]⟩]), 2, 32) := by kernel_rfl
theorem zero29 (w : World) : (zeroValue 29).run Tryd.prog w = .ok (.agg #[.string ⟨#[]⟩, .string ⟨#[]⟩]) w := by kernel_rfl

/-- 'clear(s)', s of one identifier -/
theorem run_clear_one (w : World) (ty : TypeId) (g o c : Nat) (hc : ∀ j, j < 2 → (w.cell? ⟨g, o + j, none⟩).isSome = true) (hf : ∀ j, j < 2 → w.frozen? ⟨g, o + j, none⟩ = false) :
    (Builtin.clear_ #[26] ty #[.slice (some ⟨g, o, none⟩) 1 c]).run Tryd.prog w = .ok (.tuple #[]) (w.setCells g o [.string ⟨#[]⟩, .string ⟨#[]⟩]) := by
  have hst := run_storeCells_cells (P := Tryd.prog) g o [.string ⟨#[]⟩, .string ⟨#[]⟩] 0 w (by simpa using hc) (by simpa using hf) (by intro v hv; simp at hv; rw [hv]; rfl)
  simp only [Nat.add_zero] at hst
  have hz : (Builtin.zeroCells (Value.agg #[.string ⟨#[]⟩, .string ⟨#[]⟩]).cells 1).toList = [.string ⟨#[]⟩, .string ⟨#[]⟩] := by
    apply List.ext_getElem
    · simp [Builtin.zeroCells, Value.cells]
    · intro i h1 h2
      simp at h2
      match i, h2 with
      | 0, _ => simp [Builtin.zeroCells, Value.cells]
      | 1, _ => simp [Builtin.zeroCells, Value.cells]
  simp [Builtin.clear_, run_underlying Tryd.underlying26, hz, hst]

set_option maxHeartbeats 4000000 in
set_option maxRecDepth 1000000 in
theorem del9 (g p cap i : Nat) (cur : Array Value) (w : World) (hg : w.heap[g]? = some (.cells cur 29 (0, 0))) (hsz : cur.size = cap * 2) (hn : p + 1 ≤ cap) (_hcm : cap ≤ 9223372036854775807) (hi : i ≤ p) (hp : p ≤ 200)
    (A X C : List Value) (htake : cur.toList.take ((p + 1) * 2) = A ++ X ++ C) (hA : A.length = i * 2) (hX : X.length = 2) (hone : ∀ u ∈ C, u.oneCell' = true) :
    Calls Tryd.prog 9 #[.slice (some ⟨g, 0, none⟩) (p + 1) cap, .int .i64 i, .int .i64 ((i : Int) + 1)] w fun e w' => e = .returned (.slice (some ⟨g, 0, none⟩) p cap) ∧
      (∃ cur', w'.heap[g]? = some (.cells cur' 29 (0, 0)) ∧ cur'.size = cur.size ∧ cur'.toList.take (p * 2) = A ++ C) ∧ w.grownBy w' (some g) := by
  obtain ⟨i0, hi0, hz0, hz1, hz2⟩ := info_parts info29
  have hlen : A.length + X.length + C.length = (p + 1) * 2 := by
    have := congrArg List.length htake
    simp at this
    omega
  have hC : C.length = (p - i) * 2 := by omega
  have hcell : ∀ j, w.cell? ⟨g, j, none⟩ = cur[j]? := fun j => by simp [World.cell?, hg]
  have hget : ∀ j, j < C.length → cur[(i + 1) * 2 + j]? = C[j]? := by
    intro j hj
    have h1 : (cur.toList.take ((p + 1) * 2))[(i + 1) * 2 + j]? = cur[(i + 1) * 2 + j]? := by
      rw [List.getElem?_take, if_pos (by omega)]
      simp
    rw [← h1, htake, List.getElem?_append_right (by simp; omega)]
    congr 1
    simp
    omega
  obtain ⟨AD, hAD, hnews⟩ : ∃ AD : Addr, (if cap = i + 1 then some (⟨g, 0, none⟩ : Addr) else some ⟨g, (i + 1) * 2, none⟩) = some AD ∧ Go.RowKit.Hid (∀ j u, C[j]? = some u → w.drew.cell? (AD.add j) = some u) := by
    by_cases h : cap = i + 1
    · refine ⟨⟨g, 0, none⟩, by simp [h], fun j u hu => ?_⟩
      have h0 : C.length = 0 := by omega
      rw [List.length_eq_zero_iff.1 h0] at hu
      simp at hu
    · refine ⟨⟨g, (i + 1) * 2, none⟩, by simp [h], fun j u hu => ?_⟩
      have hj := (List.getElem?_eq_some_iff.1 hu).1
      rw [Addr.add_lit]
      show w.cell? _ = _
      rw [hcell, hget j hj, hu]
  have s1 : Go.RowKit.Hid (C.length = (p - i) * 2) := hC
  have s2 : Go.RowKit.Hid (∀ u ∈ C, u.oneCell' = true) := hone
  have s3 : Go.RowKit.Hid (∀ j, j < C.length → (w.drew.cell? ⟨g, 0 + i * 2 + j, none⟩).isSome = true ∧ w.drew.frozen? ⟨g, 0 + i * 2 + j, none⟩ = false) := by
    intro j hj
    refine ⟨?_, by show w.frozen? _ = false; simp [World.frozen?, hg]⟩
    show (w.cell? _).isSome = true
    rw [hcell]
    have : 0 + i * 2 + j < cur.size := by omega
    rw [Array.getElem?_eq_getElem this]
    rfl
  -- the world behind the append
  obtain ⟨W1, hW1⟩ : ∃ W1, W1 = w.drew.setCells g (0 + i * 2) C := ⟨_, rfl⟩
  obtain ⟨cur1, hg1, hl1⟩ := setCells_heap g 29 (0, 0) C (0 + i * 2) cur w.drew hg (by omega)
  rw [← hW1] at hg1
  have hs1 : cur1.size = cur.size := by
    have := congrArg List.length hl1
    simp at this
    omega
  have ht1 : cur1.toList.take (p * 2) = A ++ C := by
    have hA' : cur.toList.take (0 + i * 2) = A := by
      have := congrArg (List.take (i * 2)) htake
      rw [List.take_take, Nat.min_eq_left (by omega), List.append_assoc, ← hA, List.take_left] at this
      rw [Nat.zero_add, ← hA]
      exact this
    rw [hl1, hA', List.take_append_of_le_length (by simp; omega), List.take_of_length_le (by simp; omega)]
  have hgr1 : w.grownBy W1 (some g) := by
    rw [hW1]
    have h0 : w.grownBy w.drew (some g) := ⟨rfl, rfl, rfl, Nat.le_refl _, fun _ _ _ => rfl⟩
    exact grown_trans h0 (setCells_grown g C (0 + i * 2) w.drew)
  have hcl : ∀ ty, (Builtin.clear_ #[26] ty #[.slice (some ⟨g, p * 2, none⟩) 1 (cap - p)]).run Tryd.prog W1 = .ok (.tuple #[]) (W1.setCells g (p * 2) [.string ⟨#[]⟩, .string ⟨#[]⟩]) := fun ty =>
    run_clear_one W1 ty g (p * 2) (cap - p) (fun j hj => by
      have : p * 2 + j < cur1.size := by omega
      simp [World.cell?, hg1, this]) (fun j hj => by simp [World.frozen?, hg1])
  obtain ⟨W2, hW2⟩ : ∃ W2, W2 = W1.setCells g (p * 2) [.string ⟨#[]⟩, .string ⟨#[]⟩] := ⟨_, rfl⟩
  obtain ⟨cur2, hg2, hl2⟩ := setCells_heap g 29 (0, 0) [.string ⟨#[]⟩, .string ⟨#[]⟩] (p * 2) cur1 W1 hg1 (by simp; omega)
  rw [← hW2] at hg2
  have hs2 : cur2.size = cur.size := by
    have := congrArg List.length hl2
    simp at this
    omega
  have ht2 : cur2.toList.take (p * 2) = A ++ C := by
    rw [hl2, ht1, List.append_assoc, List.take_append_of_le_length (by simp; omega), List.take_of_length_le (by simp; omega)]
  have hgr2 : w.grownBy W2 (some g) := by
    rw [hW2]
    exact grown_trans hgr1 (setCells_grown g _ (p * 2) W1)
  have HF := Lib.hid (And.intro (And.intro hg2 (And.intro hs2 ht2)) hgr2)
  simp only [← hW2] at hcl
  have HW := Lib.hid hW1
  have hwr : IntKind.i64.wrap ((i : Int) + 1) = (i : Int) + 1 := by rw [IntKind.wrap_i64]; omega
  have hp0 : (0 : Int) ≤ (i : Int) + 1 := by omega
  have hp1 : (i : Int) + 1 ≤ ((p : Int) + 1) := by omega
  have hp2 : ((i : Int) + 1).toNat = i + 1 := by omega
  have hp3 : ((i : Int) == (i : Int) + 1) = false := beq_eq_false_iff_ne.2 (by omega)
  have hic : i ≤ cap := by omega
  have hpc : p ≤ cap := by omega
  have hsum : i + (p - i) = p := by omega
  clear hW1 hW2 hg1 hl1 hs1 ht1 hgr1 hg2 hl2 hs2 ht2 hgr2 hcell hget hone hC hlen htake
  go_enter Tryd.func9, Tryd.ntmps9
  go_wp2_with fail
  go_region_law (refine step_append_room rfl (.tmp 22) (.tmp 25) 26 rfl 29 i0 2 Tryd.underlying26 hi0 hz1 g 0 i cap (by simp [Act.eval, Act.put]) AD (p - i) (cap - (i + 1)) C (by simp [Act.eval, Act.put]) s1.out hnews.out s2.out (by omega) s3.out ?_; rw [hsum, ← HW.out])
  go_wp2
  go_ret
  exact ⟨rfl, ⟨_, HF.out.1⟩, HF.out.2⟩
end Go.Proofs.YtmfolfjmajmamaaDoor.Ss
