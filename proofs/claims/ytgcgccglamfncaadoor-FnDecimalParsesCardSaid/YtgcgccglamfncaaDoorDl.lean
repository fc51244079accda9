/-
  WALKS for FnDecimalParses: the reference's decimal (10) whole, ParseDecimal (6), the law (3). Printed by mkDl.py.
-/
import Derived.Test.YtgcgccglamfncaaDoorDk
namespace Go.Proofs.YtgcgccglamfncaaDoor.Dec
open Go.RowKit

/-- what the reference reads behind the sign -/
def refX (neg : Bool) (t : Bs) : Option Int :=
  if dEnd t = 0 ∨ dEnd t = t.length ∨ t[dEnd t]? ≠ some 46 then none
  else if dEnd t + 1 + dEnd (t.drop (dEnd t + 1)) ≠ t.length ∨ dEnd (t.drop (dEnd t + 1)) = 0 ∨ 4 < dEnd (t.drop (dEnd t + 1)) then none
  else if PD.val (t.take (dEnd t) ++ t.drop (dEnd t + 1) ++ zs (4 - dEnd (t.drop (dEnd t + 1)))) ≤ 9223372036854775808 then
    sgnO neg (PD.val (t.take (dEnd t) ++ t.drop (dEnd t + 1) ++ zs (4 - dEnd (t.drop (dEnd t + 1)))))
  else none
theorem ref_cut (l : Bs) : refO l = refX (cutS l).1 (cutS l).2 := rfl
theorem refX_1 {neg : Bool} {t : Bs} (h : dEnd t = 0 ∨ dEnd t = t.length ∨ t[dEnd t]? ≠ some 46) : refX neg t = none := by unfold refX; rw [if_pos h]
theorem refX_2 {neg : Bool} {t : Bs} (h : dEnd t + 1 + dEnd (t.drop (dEnd t + 1)) ≠ t.length ∨ dEnd (t.drop (dEnd t + 1)) = 0 ∨ 4 < dEnd (t.drop (dEnd t + 1))) : refX neg t = none := by
  unfold refX
  by_cases h1 : dEnd t = 0 ∨ dEnd t = t.length ∨ t[dEnd t]? ≠ some 46
  · rw [if_pos h1]
  · rw [if_neg h1, if_pos h]
theorem refX_3 {neg : Bool} {t y : Bs} {p q : Nat} (hp : dEnd t = p) (hq : dEnd (t.drop (p + 1)) = q) (h0 : p ≠ 0) (h1 : p < t.length) (h2 : t[p]? = some 46) (h3 : p + 1 + q = t.length) (h4 : q ≠ 0) (h5 : ¬ 4 < q) (hy : t.take p ++ t.drop (p + 1) ++ zs (4 - q) = y) :
    refX neg t = if PD.val y ≤ 9223372036854775808 then sgnO neg (PD.val y) else none := by
  subst hp
  subst hq
  unfold refX
  rw [if_neg (by rintro (h | h | h); · exact h0 h
                 · omega
                 · exact h h2), if_neg (by rintro (h | h | h); · exact h h3
                                           · exact h4 h
                                           · exact h5 h), hy]
theorem get_bs (x : ByteArray) (p : Nat) (h : p < x.size) : (bs x)[p]? = some x[p] := by
  unfold bs
  rw [Array.getElem?_toList]
  exact Array.getElem?_eq_getElem h
theorem zeros4 (q : Nat) (hq : q ≤ 4) : bs ((ByteArray.mk #[48, 48, 48, 48]).extract q 4) = zs (4 - q) := by
  rw [bs_extract2]
  match q, hq with
  | 0, _ => rfl
  | 1, _ => rfl
  | 2, _ => rfl
  | 3, _ => rfl
  | 4, _ => rfl
theorem all_append {a b : Bs} (ha : allDig a) (hb : allDig b) : allDig (a ++ b) := fun c hc => (List.mem_append.1 hc).elim (ha c) (hb c)
theorem all_zs (k : Nat) : allDig (zs k) := fun c hc => by
  rw [List.eq_of_mem_replicate hc]
  decide

theorem dec10_pos (s : ByteArray) (w : World) (hs : s.size ≤ 1000000) (h0 : 0 < s.size) (h45 : s[0] ≠ 45) (h43 : s[0] ≠ 43) (hxs : s.size ≤ 1000000) :
    Calls Tryd.prog 10 #[.string s] w fun e w' => e = .returned (optV (refX false (bs s))) ∧ Below w.heap.size w w' := by
  obtain ⟨p, hp⟩ : ∃ p, dEnd (bs s) = p := ⟨_, rfl⟩
  have hl : (bs s).length = s.size := bs_len s
  have hle := dEnd_le (bs s)
  rw [hp, hl] at hle
  by_cases hp0 : p = 0
  · rw [refX_1 (.inl (by rw [hp]; exact hp0))]
    exact (dec10_pos_f1 s w hs h0 h45 h43 hxs p hp hp0).mono fun e w' h => ⟨h.1, by rw [h.2]; exact Below.refl _ _⟩
  by_cases hp1 : p = s.size
  · rw [refX_1 (.inr (.inl (by rw [hp, hl]; exact hp1)))]
    exact (dec10_pos_f2 s w hs h0 h45 h43 hxs p hp hp0 hp1).mono fun e w' h => ⟨h.1, by rw [h.2]; exact Below.refl _ _⟩
  have hp1 : p < s.size := by omega
  have hget := get_bs s p hp1
  by_cases hp2 : s[p] = 46
  · obtain ⟨q, hq⟩ : ∃ q, dEnd ((bs s).drop (p + 1)) = q := ⟨_, rfl⟩
    have hqE : p + 1 + dEnd ((bs s).drop (p + 1)) = p + 1 + q := by rw [hq]
    by_cases hE : p + 1 + q = s.size
    · by_cases hq0 : q = 0
      · rw [refX_2 (.inr (.inl (by rw [hp, hq]; exact hq0)))]
        exact (dec10_pos_f5 s w hs h0 h45 h43 hxs p hp hp0 hp1 hp2 (p + 1 + q) hqE hE (by omega)).mono fun e w' h => ⟨h.1, by rw [h.2]; exact Below.refl _ _⟩
      by_cases hq4 : 4 < q
      · rw [refX_2 (.inr (.inr (by rw [hp, hq]; exact hq4)))]
        exact (dec10_pos_f6 s w hs h0 h45 h43 hxs p hp hp0 hp1 hp2 (p + 1 + q) hqE hE (by omega)).mono fun e w' h => ⟨h.1, by rw [h.2]; exact Below.refl _ _⟩
      obtain ⟨y1, hy1⟩ : ∃ y1, s.extract 0 p ++ s.extract (p + 1) s.size = y1 := ⟨_, rfl⟩
      obtain ⟨y, hy⟩ : ∃ y, y1 ++ (ByteArray.mk #[48, 48, 48, 48]).extract q 4 = y := ⟨_, rfl⟩
      have hby : (bs s).take p ++ (bs s).drop (p + 1) ++ zs (4 - q) = bs y := by
        rw [← hy, ← hy1, bs_cat, bs_cat, bs_take, bs_extract, zeros4 q (by omega)]
      have hysz : y.size ≤ 2000000 := by
        rw [← bs_len, ← hby, List.length_append, List.length_append, List.length_take, List.length_drop, hl]
        unfold zs
        rw [List.length_replicate]
        omega
      have hd : ∀ c ∈ bs y, PD.dig c = true := by
        rw [← hby]
        refine all_append (all_append ?_ ?_) (all_zs _)
        · rw [← hp]; exact dEnd_take _
        · have := dEnd_take ((bs s).drop (p + 1))
          rw [hq, List.take_of_length_le (by rw [List.length_drop, hl]; omega)] at this
          exact this
      rw [refX_3 hp hq hp0 (by rw [hl]; exact hp1) (by rw [hget, hp2]) (by rw [hl]; exact hE) hq0 hq4 hby]
      by_cases hbig : PD.val (bs y) ≤ 9223372036854775808
      · rw [if_pos hbig]
        exact dec10_pos_ok s w hs h0 h45 h43 hxs p hp hp0 hp1 hp2 (p + 1 + q) hqE hE (by omega) (by omega) q rfl y1 y hy1 hy hysz hd hbig
      · rw [if_neg hbig]
        exact dec10_pos_no s w hs h0 h45 h43 hxs p hp hp0 hp1 hp2 (p + 1 + q) hqE hE (by omega) (by omega) q rfl y1 y hy1 hy hysz hd hbig
    · rw [refX_2 (.inl (by rw [hp, hq, hl]; exact hE))]
      exact (dec10_pos_f4 s w hs h0 h45 h43 hxs p hp hp0 hp1 hp2 (p + 1 + q) hqE hE).mono fun e w' h => ⟨h.1, by rw [h.2]; exact Below.refl _ _⟩
  · rw [refX_1 (.inr (.inr (by rw [hp, hget]; intro h; exact hp2 (Option.some.inj h))))]
    exact (dec10_pos_f3 s w hs h0 h45 h43 hxs p hp hp0 hp1 hp2).mono fun e w' h => ⟨h.1, by rw [h.2]; exact Below.refl _ _⟩

theorem dec10_minus (s : ByteArray) (w : World) (hs : s.size ≤ 1000000) (h0 : 0 < s.size) (h45 : s[0] = 45) (x : ByteArray) (hx : s.extract 1 s.size = x) (hxs : x.size ≤ 1000000) :
    Calls Tryd.prog 10 #[.string s] w fun e w' => e = .returned (optV (refX true (bs x))) ∧ Below w.heap.size w w' := by
  obtain ⟨p, hp⟩ : ∃ p, dEnd (bs x) = p := ⟨_, rfl⟩
  have hl : (bs x).length = x.size := bs_len x
  have hle := dEnd_le (bs x)
  rw [hp, hl] at hle
  by_cases hp0 : p = 0
  · rw [refX_1 (.inl (by rw [hp]; exact hp0))]
    exact (dec10_minus_f1 s w hs h0 h45 x hx hxs p hp hp0).mono fun e w' h => ⟨h.1, by rw [h.2]; exact Below.refl _ _⟩
  by_cases hp1 : p = x.size
  · rw [refX_1 (.inr (.inl (by rw [hp, hl]; exact hp1)))]
    exact (dec10_minus_f2 s w hs h0 h45 x hx hxs p hp hp0 hp1).mono fun e w' h => ⟨h.1, by rw [h.2]; exact Below.refl _ _⟩
  have hp1 : p < x.size := by omega
  have hget := get_bs x p hp1
  by_cases hp2 : x[p] = 46
  · obtain ⟨q, hq⟩ : ∃ q, dEnd ((bs x).drop (p + 1)) = q := ⟨_, rfl⟩
    have hqE : p + 1 + dEnd ((bs x).drop (p + 1)) = p + 1 + q := by rw [hq]
    by_cases hE : p + 1 + q = x.size
    · by_cases hq0 : q = 0
      · rw [refX_2 (.inr (.inl (by rw [hp, hq]; exact hq0)))]
        exact (dec10_minus_f5 s w hs h0 h45 x hx hxs p hp hp0 hp1 hp2 (p + 1 + q) hqE hE (by omega)).mono fun e w' h => ⟨h.1, by rw [h.2]; exact Below.refl _ _⟩
      by_cases hq4 : 4 < q
      · rw [refX_2 (.inr (.inr (by rw [hp, hq]; exact hq4)))]
        exact (dec10_minus_f6 s w hs h0 h45 x hx hxs p hp hp0 hp1 hp2 (p + 1 + q) hqE hE (by omega)).mono fun e w' h => ⟨h.1, by rw [h.2]; exact Below.refl _ _⟩
      obtain ⟨y1, hy1⟩ : ∃ y1, x.extract 0 p ++ x.extract (p + 1) x.size = y1 := ⟨_, rfl⟩
      obtain ⟨y, hy⟩ : ∃ y, y1 ++ (ByteArray.mk #[48, 48, 48, 48]).extract q 4 = y := ⟨_, rfl⟩
      have hby : (bs x).take p ++ (bs x).drop (p + 1) ++ zs (4 - q) = bs y := by
        rw [← hy, ← hy1, bs_cat, bs_cat, bs_take, bs_extract, zeros4 q (by omega)]
      have hysz : y.size ≤ 2000000 := by
        rw [← bs_len, ← hby, List.length_append, List.length_append, List.length_take, List.length_drop, hl]
        unfold zs
        rw [List.length_replicate]
        omega
      have hd : ∀ c ∈ bs y, PD.dig c = true := by
        rw [← hby]
        refine all_append (all_append ?_ ?_) (all_zs _)
        · rw [← hp]; exact dEnd_take _
        · have := dEnd_take ((bs x).drop (p + 1))
          rw [hq, List.take_of_length_le (by rw [List.length_drop, hl]; omega)] at this
          exact this
      rw [refX_3 hp hq hp0 (by rw [hl]; exact hp1) (by rw [hget, hp2]) (by rw [hl]; exact hE) hq0 hq4 hby]
      by_cases hbig : PD.val (bs y) ≤ 9223372036854775808
      · rw [if_pos hbig]
        exact dec10_minus_ok s w hs h0 h45 x hx hxs p hp hp0 hp1 hp2 (p + 1 + q) hqE hE (by omega) (by omega) q rfl y1 y hy1 hy hysz hd hbig
      · rw [if_neg hbig]
        exact dec10_minus_no s w hs h0 h45 x hx hxs p hp hp0 hp1 hp2 (p + 1 + q) hqE hE (by omega) (by omega) q rfl y1 y hy1 hy hysz hd hbig
    · rw [refX_2 (.inl (by rw [hp, hq, hl]; exact hE))]
      exact (dec10_minus_f4 s w hs h0 h45 x hx hxs p hp hp0 hp1 hp2 (p + 1 + q) hqE hE).mono fun e w' h => ⟨h.1, by rw [h.2]; exact Below.refl _ _⟩
  · rw [refX_1 (.inr (.inr (by rw [hp, hget]; intro h; exact hp2 (Option.some.inj h))))]
    exact (dec10_minus_f3 s w hs h0 h45 x hx hxs p hp hp0 hp1 hp2).mono fun e w' h => ⟨h.1, by rw [h.2]; exact Below.refl _ _⟩

theorem dec10_plus (s : ByteArray) (w : World) (hs : s.size ≤ 1000000) (h0 : 0 < s.size) (h43 : s[0] = 43) (x : ByteArray) (hx : s.extract 1 s.size = x) (hxs : x.size ≤ 1000000) :
    Calls Tryd.prog 10 #[.string s] w fun e w' => e = .returned (optV (refX false (bs x))) ∧ Below w.heap.size w w' := by
  obtain ⟨p, hp⟩ : ∃ p, dEnd (bs x) = p := ⟨_, rfl⟩
  have hl : (bs x).length = x.size := bs_len x
  have hle := dEnd_le (bs x)
  rw [hp, hl] at hle
  by_cases hp0 : p = 0
  · rw [refX_1 (.inl (by rw [hp]; exact hp0))]
    exact (dec10_plus_f1 s w hs h0 h43 x hx hxs p hp hp0).mono fun e w' h => ⟨h.1, by rw [h.2]; exact Below.refl _ _⟩
  by_cases hp1 : p = x.size
  · rw [refX_1 (.inr (.inl (by rw [hp, hl]; exact hp1)))]
    exact (dec10_plus_f2 s w hs h0 h43 x hx hxs p hp hp0 hp1).mono fun e w' h => ⟨h.1, by rw [h.2]; exact Below.refl _ _⟩
  have hp1 : p < x.size := by omega
  have hget := get_bs x p hp1
  by_cases hp2 : x[p] = 46
  · obtain ⟨q, hq⟩ : ∃ q, dEnd ((bs x).drop (p + 1)) = q := ⟨_, rfl⟩
    have hqE : p + 1 + dEnd ((bs x).drop (p + 1)) = p + 1 + q := by rw [hq]
    by_cases hE : p + 1 + q = x.size
    · by_cases hq0 : q = 0
      · rw [refX_2 (.inr (.inl (by rw [hp, hq]; exact hq0)))]
        exact (dec10_plus_f5 s w hs h0 h43 x hx hxs p hp hp0 hp1 hp2 (p + 1 + q) hqE hE (by omega)).mono fun e w' h => ⟨h.1, by rw [h.2]; exact Below.refl _ _⟩
      by_cases hq4 : 4 < q
      · rw [refX_2 (.inr (.inr (by rw [hp, hq]; exact hq4)))]
        exact (dec10_plus_f6 s w hs h0 h43 x hx hxs p hp hp0 hp1 hp2 (p + 1 + q) hqE hE (by omega)).mono fun e w' h => ⟨h.1, by rw [h.2]; exact Below.refl _ _⟩
      obtain ⟨y1, hy1⟩ : ∃ y1, x.extract 0 p ++ x.extract (p + 1) x.size = y1 := ⟨_, rfl⟩
      obtain ⟨y, hy⟩ : ∃ y, y1 ++ (ByteArray.mk #[48, 48, 48, 48]).extract q 4 = y := ⟨_, rfl⟩
      have hby : (bs x).take p ++ (bs x).drop (p + 1) ++ zs (4 - q) = bs y := by
        rw [← hy, ← hy1, bs_cat, bs_cat, bs_take, bs_extract, zeros4 q (by omega)]
      have hysz : y.size ≤ 2000000 := by
        rw [← bs_len, ← hby, List.length_append, List.length_append, List.length_take, List.length_drop, hl]
        unfold zs
        rw [List.length_replicate]
        omega
      have hd : ∀ c ∈ bs y, PD.dig c = true := by
        rw [← hby]
        refine all_append (all_append ?_ ?_) (all_zs _)
        · rw [← hp]; exact dEnd_take _
        · have := dEnd_take ((bs x).drop (p + 1))
          rw [hq, List.take_of_length_le (by rw [List.length_drop, hl]; omega)] at this
          exact this
      rw [refX_3 hp hq hp0 (by rw [hl]; exact hp1) (by rw [hget, hp2]) (by rw [hl]; exact hE) hq0 hq4 hby]
      by_cases hbig : PD.val (bs y) ≤ 9223372036854775808
      · rw [if_pos hbig]
        exact dec10_plus_ok s w hs h0 h43 x hx hxs p hp hp0 hp1 hp2 (p + 1 + q) hqE hE (by omega) (by omega) q rfl y1 y hy1 hy hysz hd hbig
      · rw [if_neg hbig]
        exact dec10_plus_no s w hs h0 h43 x hx hxs p hp hp0 hp1 hp2 (p + 1 + q) hqE hE (by omega) (by omega) q rfl y1 y hy1 hy hysz hd hbig
    · rw [refX_2 (.inl (by rw [hp, hq, hl]; exact hE))]
      exact (dec10_plus_f4 s w hs h0 h43 x hx hxs p hp hp0 hp1 hp2 (p + 1 + q) hqE hE).mono fun e w' h => ⟨h.1, by rw [h.2]; exact Below.refl _ _⟩
  · rw [refX_1 (.inr (.inr (by rw [hp, hget]; intro h; exact hp2 (Option.some.inj h))))]
    exact (dec10_plus_f3 s w hs h0 h43 x hx hxs p hp hp0 hp1 hp2).mono fun e w' h => ⟨h.1, by rw [h.2]; exact Below.refl _ _⟩

theorem dec10 (s : ByteArray) (w : World) (hs : s.size ≤ 1000000) : Calls Tryd.prog 10 #[.string s] w fun e w' => e = .returned (optV (refO (bs s))) ∧ Below w.heap.size w w' := by
  rw [ref_cut]
  rcases Nat.eq_zero_or_pos s.size with h0 | h0
  · rw [bs_nil s h0]
    exact (dec10_empty s w h0).mono fun e w' h => ⟨h.1, by rw [h.2]; exact Below.refl _ _⟩
  · have hb := bs_get s 0 h0
    rw [List.drop_zero, ← bs_extract s (0 + 1)] at hb
    have hsz : (s.extract 1 s.size).size ≤ 1000000 := by simp; omega
    by_cases h45 : s[0] = 45
    · have e : cutS (bs s) = (true, bs (s.extract 1 s.size)) := by rw [hb, h45]; rfl
      rw [e]
      exact dec10_minus s w hs h0 h45 _ rfl hsz
    · by_cases h43 : s[0] = 43
      · have e : cutS (bs s) = (false, bs (s.extract 1 s.size)) := by rw [hb, h43]; rfl
        rw [e]
        exact dec10_plus s w hs h0 h43 _ rfl hsz
      · have e : cutS (bs s) = (false, bs s) := by
          rw [hb]
          simp only [cutS]
          rw [if_neg h45, if_neg h43]
        rw [e]
        exact dec10_pos s w hs h0 h45 h43 hs

theorem spec6 (s : ByteArray) (w : World) (hs : s.size ≤ 1000000) : Calls Tryd.prog 6 #[.string s] w fun e w' => e = .returned (optV (refO (bs s))) ∧ Below w.heap.size w w' := by
  have C := dec10 s w hs
  obtain ⟨n, b, hO⟩ : ∃ n b, optV (refO (bs s)) = .tuple #[.int .i64 n, .bool b] := by
    cases refO (bs s) with
    | none => exact ⟨_, _, rfl⟩
    | some n => exact ⟨_, _, rfl⟩
  rw [hO] at C ⊢
  clear hO
  go_enter Tryd.func6, Tryd.ntmps6
  go_wp2_with fail
  refine C.mono ?_
  rintro e w1 ⟨rfl, hb⟩
  have HB := Lib.hid hb
  clear hb
  simp only []
  go_wp2_with fail
  go_ret2
  exact ⟨rfl, HB.out⟩

theorem law3 (s : ByteArray) (w : World) (E : Env w) : Calls Tryd.prog 3 #[.string s] w fun e w' => e = .returned (.bool true) ∧ Below w.heap.size w w' := by
  by_cases h1 : s.size ≤ 2000
  · have A := impl5 s w (by omega) E
    rw [pkg_ref] at A
    have B := fun w => spec6 s w (by omega)
    obtain ⟨n, b, hO⟩ : ∃ n b, optV (refO (bs s)) = .tuple #[.int .i64 n, .bool b] := by
      cases refO (bs s) with
      | none => exact ⟨_, _, rfl⟩
      | some n => exact ⟨_, _, rfl⟩
    rw [hO] at A
    simp only [hO] at B
    have q1 : ¬ (2147483647 : Int) < (s.size : Int) := by omega
    have q2 : ¬ (2000 : Int) < (s.size : Int) := by omega
    clear hO E
    cases b
    all_goals
      go_enter Tryd.func3, Tryd.ntmps3
      go_wp2_with fail
      refine A.mono ?_
      rintro e w1 ⟨rfl, hb⟩
      have HB := Lib.hid hb
      clear hb
      simp only []
      go_wp2_with fail
      refine (B _).mono ?_
      rintro e w2 ⟨rfl, hb⟩
      have HB2 := Lib.hid (HB.out.trans (hb.mono HB.out.size))
      clear hb
      simp only []
      go_wp2_with fail
      go_ret
      refine ⟨?_, HB2.out⟩
      first | rfl | (show Ending.returned (.bool _) = _; simp)
  · by_cases h2 : s.size ≤ 2147483647
    · have q1 : ¬ (2147483647 : Int) < (s.size : Int) := by omega
      have q2 : (2000 : Int) < (s.size : Int) := by omega
      go_enter Tryd.func3, Tryd.ntmps3
      go_wp2_with fail
      go_ret
      exact ⟨rfl, Below.refl _ _⟩
    · have q1 : (2147483647 : Int) < (s.size : Int) := by omega
      go_enter Tryd.func3, Tryd.ntmps3
      go_wp2_with fail
      go_ret
      exact ⟨rfl, Below.refl _ _⟩
end Go.Proofs.YtgcgccglamfncaaDoor.Dec
