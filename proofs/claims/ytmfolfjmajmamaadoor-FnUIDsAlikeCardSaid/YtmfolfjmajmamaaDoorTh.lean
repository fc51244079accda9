/-
  WALKS for FnUIDsAlike: slices.Clone (13); append of one slice of identifiers to another.
-/
import Derived.Test.YtmfolfjmajmamaaDoorTg
import Derived.Lib.SliceRun
namespace Go.Proofs.YtmfolfjmajmamaaDoor.Al
open Go.RowKit Go.Maps Go.Proofs.YtmfolfjmajmamaaDoor.Ss

theorem run_append_zero (b : Option Addr) (n cap c : Nat) (hn : n ≤ cap) (ty : TypeId) (w : World) :
    (Builtin.append_ #[26, 26] ty #[.slice b n cap, .slice none 0 c]).run Tryd.prog w = .ok (.slice b n cap) w := by
  obtain ⟨i, hi, hz0, hz1, hz2⟩ := info_parts info29
  cases b <;> simp [Builtin.append_, run_underlying Tryd.underlying26, sizeOf, typeInfo, hi, Builtin.lenOf, hn, Builtin.firstCells, storeCells]

theorem ids_cells {g off n : Nat} {id : Nat → K} {w : World} (h : IdsAt g off n id w) : ∀ j u, (flatK (idsL id n))[j]? = some u → w.cell? ((⟨g, off, none⟩ : Addr).add j) = some u := by
  intro j u hu
  have hadd : (⟨g, off, none⟩ : Addr).add j = ⟨g, off + j, none⟩ := by unfold Addr.add; split <;> simp_all
  rw [hadd]
  have hl : j < n * 2 := by
    have := (List.getElem?_eq_some_iff.1 hu).1
    rwa [flatK_length, idsL_length] at this
  have hk : j / 2 < n := by omega
  obtain ⟨a, b⟩ := flatK_get (idsL id n) (j / 2) (by rw [idsL_length]; exact hk)
  have e : nth (idsL id n) (j / 2) = id (j / 2) := by simp [nth, idsL, hk]
  rw [e] at a b
  obtain ⟨c, d⟩ := h (j / 2) hk
  rcases Nat.mod_two_eq_zero_or_one j with hj | hj
  · have e1 : j = j / 2 * 2 := by omega
    rw [e1, a] at hu
    rw [e1, c]
    exact hu
  · have e1 : j = j / 2 * 2 + 1 := by omega
    rw [e1, b] at hu
    rw [e1, ← Nat.add_assoc, d]
    exact hu

theorem wpList_append_uids (w : World) {ops : Array Oper} {rest : List Oper} {o : Oper} {a : Act} {Q : Exit → Act → World → Prop} (hgd : o.guard = none) (s x : Operand)
    (ho : o.op = .call { callee := .builtin .append, args := #[s, x], argTypes := #[26, 26] }) (base : Nat) (v vb : Value) (n m : Nat) (xs : List Value) (idb : Nat → K) (hs : a.eval s = v) (hown : w.ownsRow base 29 2 v n xs) (hx : a.eval x = vb) (hb : UAt vb m idb w)
    (hm : n + m ≤ 1000) (hbase : base ≤ w.heap.size)
    (h : ∀ v' w', w'.ownsRow base 29 2 v' (n + m) (xs ++ flatK (idsL idb m)) → w.grownBy w' v.ownBlock → wpList Tryd.prog ops Q rest (a.put o.dst v') w') : wpList Tryd.prog ops Q (o :: rest) a w := by
  obtain ⟨i, hi, hz0, hz1, hz2⟩ := info_parts info29
  obtain ⟨ad, c, rfl, h0, _⟩ := hb
  cases ad with
  | none =>
    have hm0 : m = 0 := by
      rcases h0 with h0 | ⟨g, off, e, _⟩
      · exact h0
      · cases e
    subst hm0
    refine wpList_plain hgd fun K' hK' => ?_
    obtain ⟨b, cap, rfl, hnc⟩ : ∃ b cap, v = .slice b n cap ∧ n ≤ cap := by
      rcases hown.2 with ⟨hv, hn⟩ | ⟨g, cap, cur, hv, _, _, h1, _⟩
      · exact ⟨none, 0, by rw [hv, hn], by omega⟩
      · exact ⟨_, cap, hv, h1⟩
    have hr := run_append_zero b n cap c hnc o.type w
    unfold Oper.wp execOp
    simp only [ho, resolve, invoke, builtin, Sem.run_bind, Sem.run_pure, Result.andThen_ok, List.map_toArray, List.map_cons, List.map_nil, hs, hx, hr]
    refine hK' _ _ (h _ w ?_ ⟨rfl, rfl, rfl, Nat.le_refl _, fun _ _ _ => rfl⟩)
    simpa [idsL, flatK] using hown
  | some ad =>
    rcases h0 with h0 | ⟨g, off, e, hg, hi'⟩
    · subst h0
      refine wpList_append_own w hgd s x 26 ho base 29 i _ 2 32 Tryd.underlying26 hi hz0 hz1 hz2 rfl (by decide) v n xs hs hown ad 0 c [] hx rfl (fun j u hu => by simp at hu) (fun u hu => by simp at hu) (by unfold maxLen; omega) (by omega) hbase (fun v' w' h2 h3 _ => h v' w' (by simpa [idsL, flatK] using h2) h3)
    · cases e
      exact wpList_append_own w hgd s x 26 ho base 29 i _ 2 32 Tryd.underlying26 hi hz0 hz1 hz2 rfl (by decide) v n xs hs hown ⟨g, off, none⟩ m c (flatK (idsL idb m)) hx (by rw [flatK_length, idsL_length]) (ids_cells hi') (flatK_oneCell _) (by unfold maxLen; omega) (by omega) hbase (fun v' w' h2 h3 _ => h v' w' h2 h3)

theorem clone13 {v : Value} {n : Nat} {id : Nat → K} {w : World} (A : UAt v n id w) (hn : n ≤ 1000) :
    Calls Tryd.prog 13 #[v] w fun e w' => ∃ v', e = .returned v' ∧ w'.ownsRow w.heap.size 29 2 v' n (flatK (idsL id n)) ∧ Below w.heap.size w w' := by
  have A0 := A
  obtain ⟨ad, c, rfl, h0, _⟩ := A0
  cases ad with
  | none =>
    have hm0 : n = 0 := by
      rcases h0 with h0 | ⟨g, off, e, _⟩
      · exact h0
      · cases e
    subst hm0
    have EN := fun w => Lib.run_eql_slice_nil (P := Tryd.prog) w 26 29 none 0 c 0 0 Tryd.underlying26
    go_enter Tryd.func13, Tryd.ntmps13
    go_wp2_with fail
    go_ret
    exact ⟨_, rfl, by simpa [idsL, flatK] using World.ownsRow_nil _ _ _ _, Below.refl _ _⟩
  | some ad =>
    have HA := Lib.hid (A.below ((Below.refl w.heap.size w).alloc (Nat.le_refl _) (.cells #[] 29)))
    have hO : (w.alloc (.cells #[] 29)).ownsRow w.heap.size 29 2 (.slice (some ⟨w.heap.size, 0, none⟩) 0 0) 0 [] :=
      ⟨rfl, .inr ⟨w.heap.size, 0, #[], rfl, Nat.le_refl _, heap_alloc_new w _, Nat.le_refl _, by unfold maxLen; omega, rfl, rfl⟩⟩
    have HO := Lib.hid hO
    have EN := fun w => Lib.run_eql_slice_nil (P := Tryd.prog) w 26 29 (some ad) n c 0 0 Tryd.underlying26
    clear A h0 hO
    go_enter Tryd.func13, Tryd.ntmps13
    go_wp2_with (at_builtin; refine wpList_append_uids _ rfl _ _ rfl w.heap.size (.slice (some ⟨w.heap.size, 0, none⟩) 0 0) _ 0 n [] id rfl HO.out rfl HA.out (by omega) (by simp) ?_; intro v' w2 hown hgr)
    have HZ := Lib.hid (And.intro hown (((Below.refl w.heap.size w).alloc (Nat.le_refl _) (.cells #[] 29)).grown hgr (by simp) (fun k e => Nat.le_of_eq (by simpa [Value.ownBlock] using e))))
    clear hown hgr
    go_wp2_with fail
    go_ret
    exact ⟨_, rfl, by simpa using HZ.out.1, HZ.out.2⟩

theorem uat_of_row {B n : Nat} {v : Value} {id : Nat → K} {w : World} (h : w.ownsRow B 29 2 v n (flatK (idsL id n))) (hs : ∀ k, k < n → small (id k)) : UAt v n id w := by
  rcases h.2 with ⟨rfl, hn⟩ | ⟨g, cap, cur, rfl, _, hg, _, _, _, ht⟩
  · subst hn
    exact ⟨none, 0, rfl, .inl rfl, hs⟩
  · refine ⟨_, cap, rfl, .inr ⟨g, 0, rfl, (Array.getElem?_eq_some_iff.1 hg).1, ?_⟩, hs⟩
    intro j hj
    have hc : ∀ i, w.cell? ⟨g, i, none⟩ = cur[i]? := fun i => by simp [World.cell?, hg]
    have h1 : ∀ i, i < n * 2 → cur[i]? = (flatK (idsL id n))[i]? := fun i hi => by
      rw [← ht, List.getElem?_take, if_pos hi]
      simp
    obtain ⟨a, b⟩ := flatK_get (idsL id n) j (by rw [idsL_length]; exact hj)
    have e : nth (idsL id n) j = id j := by simp [nth, idsL, hj]
    rw [e] at a b
    simp only [Nat.zero_add]
    rw [hc, hc, h1 _ (by omega), h1 _ (by omega)]
    exact ⟨a, b⟩

/-- one family behind another -/
def joinF (n : Nat) (f g : Nat → K) (k : Nat) : K := if k < n then f k else g (k - n)
theorem joinF_list (n m : Nat) (f g : Nat → K) : idsL f n ++ idsL g m = idsL (joinF n f g) (n + m) := by
  apply List.ext_getElem?
  intro j
  rcases Nat.lt_or_ge j n with h | h
  · rw [List.getElem?_append_left (by simpa [idsL] using h)]
    simp [idsL, joinF, h, show j < n + m by omega]
  · rw [List.getElem?_append_right (by simpa [idsL] using h)]
    rcases Nat.lt_or_ge j (n + m) with h' | h'
    · simp [idsL, joinF, h', show ¬ j < n by omega, show j - n < m by omega]
    · simp [idsL, show ¬ j < n + m by omega, show ¬ j - n < m by omega]
end Go.Proofs.YtmfolfjmajmamaaDoor.Al
