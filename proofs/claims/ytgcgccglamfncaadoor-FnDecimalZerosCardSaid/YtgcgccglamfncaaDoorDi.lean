/-
  FnDecimalParses: the plain law: what the package reads is what the reference reads.
-/
import Derived.Test.YtgcgccglamfncaaDoorDh
namespace Go.Proofs.YtgcgccglamfncaaDoor.Dec

def fracV (u k : Nat) (neg : Bool) : Int := if neg then -((u * pn k : Nat) : Int) else ((u * pn k : Nat) : Int)
def minusHead (l : Bs) : Bool := match l with | [] => false | c :: _ => c == 45
/-- what the package reads -/
def pkgO (l : Bs) : Option Int :=
  if dot l < l.length then
    match Lib.parseIntB 64 (l.take (dot l)), Lib.parseUintB 16 (l.drop (dot l + 1)) with
    | .ok v, .ok u => if 4 < l.length - (dot l + 1) then none else newO v (fracV u (4 - (l.length - (dot l + 1))) (minusHead l))
    | _, _ => none
  else none
def zs (k : Nat) : Bs := List.replicate k 48
/-- what the reference reads -/
def refO (l : Bs) : Option Int :=
  if dEnd (cutS l).2 = 0 ∨ dEnd (cutS l).2 = (cutS l).2.length ∨ (cutS l).2[dEnd (cutS l).2]? ≠ some 46 then none
  else if dEnd (cutS l).2 + 1 + dEnd ((cutS l).2.drop (dEnd (cutS l).2 + 1)) ≠ (cutS l).2.length ∨ dEnd ((cutS l).2.drop (dEnd (cutS l).2 + 1)) = 0 ∨ 4 < dEnd ((cutS l).2.drop (dEnd (cutS l).2 + 1)) then none
  else if PD.val ((cutS l).2.take (dEnd (cutS l).2) ++ (cutS l).2.drop (dEnd (cutS l).2 + 1) ++ zs (4 - dEnd ((cutS l).2.drop (dEnd (cutS l).2 + 1)))) ≤ 9223372036854775808 then
    sgnO (cutS l).1 (PD.val ((cutS l).2.take (dEnd (cutS l).2) ++ (cutS l).2.drop (dEnd (cutS l).2 + 1) ++ zs (4 - dEnd ((cutS l).2.drop (dEnd (cutS l).2 + 1)))))
  else none

/-- a decimal's parts -/
structure Parts (l : Bs) (neg : Bool) (ds fr : Bs) : Prop where
  cut : cutS l = (neg, ds ++ 46 :: fr)
  ne : ds ≠ []
  dd : allDig ds
  df : allDig fr
  f1 : 1 ≤ fr.length
  f4 : fr.length ≤ 4
def mag (ds fr : Bs) : Nat := PD.val ds * 10000 + PD.val fr * pn (4 - fr.length)

theorem takeWhile_take (p : UInt8 → Bool) (l : List UInt8) : l.take (l.takeWhile p).length = l.takeWhile p := by
  conv => lhs; arg 2; rw [← List.takeWhile_append_dropWhile (p := p) (l := l)]
  rw [List.take_left]
theorem takeWhile_all (p : UInt8 → Bool) : ∀ (s : Bs), ∀ c ∈ s.takeWhile p, p c = true
  | [], c, h => by simp at h
  | x :: s, c, h => by
    rw [List.takeWhile_cons] at h
    split at h
    · rcases List.mem_cons.1 h with rfl | h
      · assumption
      · exact takeWhile_all p s c h
    · simp at h
theorem dEnd_take (t : Bs) : allDig (t.take (dEnd t)) := by
  unfold dEnd
  rw [takeWhile_take]
  exact takeWhile_all _ t
theorem tw_append (p : UInt8 → Bool) : ∀ (a b : Bs), (∀ c ∈ a, p c = true) → ((a ++ b).takeWhile p) = a ++ b.takeWhile p
  | [], b, _ => rfl
  | c :: a, b, h => by
    rw [List.cons_append, List.takeWhile_cons, if_pos (h c (by simp)), tw_append p a b (fun x hx => h x (by simp [hx]))]
    rfl
theorem dEnd_all {a : Bs} (h : allDig a) : dEnd a = a.length := by
  unfold dEnd
  have := tw_append PD.dig a [] h
  simp at this
  rw [this]
theorem dEnd_point {a b : Bs} (h : allDig a) : dEnd (a ++ 46 :: b) = a.length := by
  unfold dEnd
  rw [tw_append PD.dig a _ h]
  have : PD.dig 46 = false := by decide
  simp [this]
theorem dot_point {a b : Bs} (h : ∀ c ∈ a, c ≠ 46) : dot (a ++ 46 :: b) = a.length := by
  unfold dot
  rw [tw_append (fun c => c != 46) a _ (fun c hc => by simpa using h c hc)]
  simp
theorem dig_not {c : UInt8} (h : PD.dig c = true) : c ≠ 46 ∧ c ≠ 45 ∧ c ≠ 43 := by
  refine ⟨?_, ?_, ?_⟩ <;> (rintro rfl; revert h; decide)

theorem cut_append (a b : Bs) (h : a ≠ []) : cutS (a ++ b) = ((cutS a).1, (cutS a).2 ++ b) := by
  match a, h with
  | c :: r, _ =>
    simp only [List.cons_append, cutS]
    split
    · rfl
    · split <;> rfl
/-- the sign -/
theorem sg_cases {l t : Bs} {neg : Bool} (h : cutS l = (neg, t)) : ∃ sg, l = sg ++ t ∧ ((sg = [45] ∧ neg = true) ∨ (sg = [43] ∧ neg = false) ∨ (sg = [] ∧ neg = false)) := by
  match l with
  | [] =>
    simp [cutS] at h
    obtain ⟨rfl, rfl⟩ := h
    exact ⟨[], rfl, .inr (.inr ⟨rfl, rfl⟩)⟩
  | c :: r =>
    simp only [cutS] at h
    split at h
    · rename_i hc
      subst hc
      injection h with h1 h2
      subst h1 h2
      exact ⟨[45], rfl, .inl ⟨rfl, rfl⟩⟩
    · split at h
      · rename_i hc
        subst hc
        injection h with h1 h2
        subst h1 h2
        exact ⟨[43], rfl, .inr (.inl ⟨rfl, rfl⟩)⟩
      · injection h with h1 h2
        subst h1 h2
        exact ⟨[], rfl, .inr (.inr ⟨rfl, rfl⟩)⟩

theorem pn_pow (k : Nat) (hk : k ≤ 4) : pn k = 10 ^ k := by
  match k, hk with
  | 0, _ => rfl
  | 1, _ => rfl
  | 2, _ => rfl
  | 3, _ => rfl
  | 4, _ => rfl

theorem frac_lt {fr : Bs} (hd : allDig fr) (h4 : fr.length ≤ 4) : PD.val fr * pn (4 - fr.length) < 10000 ∧ PD.val fr < 10000 := by
  have h := val_lt fr hd
  rw [pn_pow _ (by omega)]
  generalize PD.val fr = v at *
  generalize fr.length = n at *
  match n, h4 with
  | 0, _ => simp at h ⊢; omega
  | 1, _ => simp at h ⊢; omega
  | 2, _ => simp at h ⊢; omega
  | 3, _ => simp at h ⊢; omega
  | 4, _ => simp at h ⊢; omega

theorem mag_val {ds fr : Bs} (h4 : fr.length ≤ 4) : PD.val (ds ++ fr ++ zs (4 - fr.length)) = mag ds fr := by
  unfold mag zs
  rw [val_append, val_append, val_zeros, pn_pow _ (by omega), List.length_replicate, Nat.add_mul, Nat.add_zero, Nat.mul_assoc, ← Nat.pow_add, show fr.length + (4 - fr.length) = 4 by omega]

/-- the constructor, at a number with its sign -/
theorem new_sgn (neg : Bool) (a f : Nat) (hf : f < 10000) : newO (sgn neg a) (if neg then -(f : Int) else (f : Int)) = sgnO neg (a * 10000 + f) := by
  unfold newO sgnO
  cases neg with
  | false =>
    simp only [sgn, Bool.false_eq_true, if_false, false_and, or_false]
    by_cases h : a * 10000 + f ≤ 9223372036854775807
    · rw [if_pos h, if_neg (by omega), if_neg (by omega)]
      congr 1 <;> omega
    · rw [if_neg h, if_pos (by omega)]
  | true =>
    simp only [sgn, if_true, true_and]
    by_cases h : a * 10000 + f ≤ 9223372036854775807 ∨ a * 10000 + f = 9223372036854775808
    · rw [if_pos h, if_neg (by omega), if_neg (by omega)]
      congr 1 <;> omega
    · rw [if_neg h]
      split
      · rfl
      · rw [if_pos (by omega)]

theorem sgnO_big {neg : Bool} {m : Nat} (h : ¬ (m ≤ 9223372036854775807 ∨ (neg = true ∧ m = 9223372036854775808))) : sgnO neg m = none := by unfold sgnO; rw [if_neg h]

/-- the parts, as the package finds them -/
theorem parts_dot {l ds fr : Bs} {neg : Bool} (P : Parts l neg ds fr) : ∃ A, l = A ++ 46 :: fr ∧ dot l = A.length ∧ A ≠ [] ∧ cutS A = (neg, ds) ∧ minusHead l = neg := by
  obtain ⟨sg, hl, hsg⟩ := sg_cases P.cut
  have e : l = (sg ++ ds) ++ 46 :: fr := by rw [hl]; simp
  have hne : sg ++ ds ≠ [] := by
    intro h
    exact P.ne (List.append_eq_nil_iff.1 h).2
  have h46 : ∀ c ∈ sg ++ ds, c ≠ 46 := by
    intro c hc
    rcases List.mem_append.1 hc with h | h
    · rcases hsg with ⟨rfl, _⟩ | ⟨rfl, _⟩ | ⟨rfl, _⟩
      · simp at h; subst h; decide
      · simp at h; subst h; decide
      · simp at h
    · exact (dig_not (P.dd c h)).1
  refine ⟨sg ++ ds, e, by rw [e]; exact dot_point h46, hne, ?_, ?_⟩
  · have h1 := P.cut
    rw [e, cut_append _ _ hne] at h1
    injection h1 with h1 h2
    have h3 := List.append_cancel_right h2
    exact Prod.ext h1 h3
  · obtain ⟨c, r, hds⟩ := List.exists_cons_of_ne_nil P.ne
    have hc := dig_not (P.dd c (by rw [hds]; simp))
    rw [e]
    rcases hsg with ⟨rfl, rfl⟩ | ⟨rfl, rfl⟩ | ⟨rfl, rfl⟩
    · rfl
    · rfl
    · rw [hds]
      exact beq_eq_false_iff_ne.2 hc.2.1

theorem pkg_of {l ds fr : Bs} {neg : Bool} (P : Parts l neg ds fr) : pkgO l = sgnO neg (mag ds fr) := by
  obtain ⟨A, hl, hdot, hA, hcut, hmin⟩ := parts_dot P
  have hlt : dot l < l.length := by rw [hdot, hl]; simp
  have htake : l.take (dot l) = A := by rw [hdot, hl, List.take_left]
  have hdrop : l.drop (dot l + 1) = fr := by
    rw [hdot, hl, ← List.drop_drop, List.drop_left]
    rfl
  have hlen : l.length - (dot l + 1) = fr.length := by rw [← hdrop, List.length_drop]
  have hfr : fr ≠ [] := fun h => by have := P.f1; rw [h] at this; simp at this
  obtain ⟨f1, f2⟩ := frac_lt P.df P.f4
  unfold pkgO
  rw [if_pos hlt, htake, hdrop, hlen, uB_of 16 (by decide) fr hfr P.df (by show PD.val fr ≤ 65535; omega)]
  by_cases hb : PD.val ds ≤ 9223372036854775807 ∨ (neg = true ∧ PD.val ds = 9223372036854775808)
  · rw [int_of A neg ds hcut P.ne P.dd hb]
    simp only []
    rw [if_neg (by have := P.f4; omega), hmin]
    exact new_sgn neg (PD.val ds) _ f1
  · rw [sgnO_big (m := mag ds fr) (by unfold mag; rintro (h | ⟨h, h'⟩) <;> exact hb (.inl (by omega)))]
    cases hp : Lib.parseIntB 64 A with
    | «syntax» => rfl
    | range => rfl
    | ok v =>
      exfalso
      obtain ⟨_, _, _, _, h⟩ := int_inv A v hp
      rw [hcut] at h
      exact hb h

theorem dot_split {l : Bs} (h : dot l < l.length) : l = l.take (dot l) ++ 46 :: l.drop (dot l + 1) := by
  have h1 : l[dot l]? = some 46 := by
    unfold dot at h ⊢
    have e := List.takeWhile_append_dropWhile (p := fun c : UInt8 => c != 46) (l := l)
    cases hd : l.dropWhile (fun c => c != 46) with
    | nil =>
      rw [hd, List.append_nil] at e
      rw [e] at h
      omega
    | cons x r =>
      have hx : (fun c : UInt8 => c != 46) x = false := by
        have := List.head?_dropWhile_not (fun c : UInt8 => c != 46) l
        rw [hd] at this
        simpa using this
      conv => lhs; arg 1; rw [← e, hd]
      rw [List.getElem?_append_right (Nat.le_refl _)]
      simp at hx ⊢
      exact hx
  have h2 : l.drop (dot l) = 46 :: l.drop (dot l + 1) := by
    rw [List.drop_eq_getElem_cons h]
    congr 1
    have := List.getElem?_eq_getElem h
    rw [h1] at this
    exact (Option.some.inj this).symm
  rw [← h2, List.take_append_drop]

theorem pkg_inv {l : Bs} {n : Int} (h : pkgO l = some n) : ∃ neg ds fr, Parts l neg ds fr := by
  unfold pkgO at h
  split at h
  · rename_i hlt
    have hs := dot_split hlt
    cases hp : Lib.parseIntB 64 (l.take (dot l)) with
    | «syntax» => rw [hp] at h; cases h
    | range => rw [hp] at h; cases h
    | ok v =>
      cases hu : Lib.parseUintB 16 (l.drop (dot l + 1)) with
      | «syntax» => rw [hp, hu] at h; cases h
      | range => rw [hp, hu] at h; cases h
      | ok u =>
        rw [hp, hu] at h
        simp only [] at h
        split at h
        · cases h
        · rename_i h4
          obtain ⟨a1, a2, a3, _, _⟩ := int_inv _ v hp
          obtain ⟨b1, b2, _, _⟩ := uB_inv 16 _ u hu
          refine ⟨(cutS (l.take (dot l))).1, (cutS (l.take (dot l))).2, l.drop (dot l + 1), ⟨?_, a2, a3, b2, ?_, ?_⟩⟩
          · conv => lhs; rw [hs]
            exact cut_append _ _ a1
          · rcases Nat.eq_zero_or_pos (l.drop (dot l + 1)).length with h0 | h0
            · exact absurd (List.length_eq_zero_iff.1 h0) b1
            · exact h0
          · rw [List.length_drop]; omega
  · cases h

theorem ref_of {l ds fr : Bs} {neg : Bool} (P : Parts l neg ds fr) : refO l = sgnO neg (mag ds fr) := by
  have h1 : dEnd (ds ++ 46 :: fr) = ds.length := dEnd_point P.dd
  have h2 : (ds ++ 46 :: fr).take ds.length = ds := List.take_left
  have h3 : (ds ++ 46 :: fr).drop (ds.length + 1) = fr := by rw [← List.drop_drop, List.drop_left]; rfl
  have h4 : dEnd fr = fr.length := dEnd_all P.df
  have h5 : ds.length ≠ 0 := fun h => P.ne (List.length_eq_zero_iff.1 h)
  have f1 := P.f1
  have f4 := P.f4
  unfold refO
  rw [P.cut]
  simp only [h1, h2, h3, h4]
  rw [if_neg (by
    rintro (h | h | h)
    · exact h5 h
    · simp at h
    · exact h (by rw [List.getElem?_append_right (Nat.le_refl _)]; simp)), if_neg (by
    rintro (h | h | h)
    · apply h; simp; omega
    · omega
    · omega), mag_val f4]
  split
  · rfl
  · rename_i h
    exact (sgnO_big (by rintro (x | ⟨_, x⟩) <;> omega)).symm

theorem ref_inv {l : Bs} {n : Int} (h : refO l = some n) : ∃ neg ds fr, Parts l neg ds fr := by
  unfold refO at h
  split at h
  · cases h
  · rename_i g1
    split at h
    · cases h
    · rename_i g2
      generalize hc : cutS l = ct at *
      obtain ⟨neg, t⟩ := ct
      simp only [] at g1 g2
      have p0 : ¬ dEnd t = 0 := fun x => g1 (.inl x)
      have p1 : t[dEnd t]? = some 46 := by
        by_cases hx : t[dEnd t]? = some 46
        · exact hx
        · exact absurd (.inr (.inr hx)) g1
      have q1 : dEnd t + 1 + dEnd (t.drop (dEnd t + 1)) = t.length := by
        by_cases hx : dEnd t + 1 + dEnd (t.drop (dEnd t + 1)) = t.length
        · exact hx
        · exact absurd (.inl hx) g2
      have q2 : ¬ dEnd (t.drop (dEnd t + 1)) = 0 := fun x => g2 (.inr (.inl x))
      have q3 : ¬ 4 < dEnd (t.drop (dEnd t + 1)) := fun x => g2 (.inr (.inr x))
      have hlt : dEnd t < t.length := by omega
      have hlen : (t.drop (dEnd t + 1)).length = dEnd (t.drop (dEnd t + 1)) := by rw [List.length_drop]; omega
      have hsplit : t = t.take (dEnd t) ++ 46 :: t.drop (dEnd t + 1) := by
        have h2 : t.drop (dEnd t) = 46 :: t.drop (dEnd t + 1) := by
          rw [List.drop_eq_getElem_cons hlt]
          congr 1
          have := List.getElem?_eq_getElem hlt
          rw [p1] at this
          exact (Option.some.inj this).symm
        rw [← h2, List.take_append_drop]
      refine ⟨neg, t.take (dEnd t), t.drop (dEnd t + 1), ⟨?_, ?_, dEnd_take t, ?_, by omega, by omega⟩⟩
      · rw [hc, ← hsplit]
      · intro hx
        have := congrArg List.length hx
        rw [List.length_take, List.length_nil] at this
        omega
      · have := dEnd_take (t.drop (dEnd t + 1))
        rwa [← hlen, List.take_length] at this

/-- the package reads what the reference reads -/
theorem pkg_ref (l : Bs) : pkgO l = refO l := by
  cases hp : pkgO l with
  | some n =>
    obtain ⟨neg, ds, fr, P⟩ := pkg_inv hp
    rw [← hp, pkg_of P, ref_of P]
  | none =>
    cases hr : refO l with
    | none => rfl
    | some m =>
      obtain ⟨neg, ds, fr, P⟩ := ref_inv hr
      rw [← hp, ← hr, pkg_of P, ref_of P]
end Go.Proofs.YtgcgccglamfncaaDoor.Dec
