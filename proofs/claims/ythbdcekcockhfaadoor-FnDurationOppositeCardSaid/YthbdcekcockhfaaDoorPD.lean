/-
  PLAIN LAW: the package's way of reading a duration and the reference's agree. No program in sight.
-/
namespace Go.Proofs.YthbdcekcockhfaaDoor.PD
abbrev Bs := List UInt8
def mx : Nat := 9223372036854775807
def dig (c : UInt8) : Bool := 48 ≤ c && c ≤ 57
def low (c : UInt8) : Bool := 97 ≤ c && c ≤ 122
def dv (c : UInt8) : Nat := c.toNat - 48
def size : Nat → Nat
  | 0 => 86400000 | 1 => 3600000 | 2 => 60000 | 3 => 1000 | _ => 1
/-- the place of a unit of one letter -/
def unit1 (c : UInt8) : Option Nat := if c = 100 then some 0 else if c = 104 then some 1 else if c = 109 then some 2 else if c = 115 then some 3 else none

/-- the unit that stands at the head, and what is behind it -/
def unitG (c : UInt8) (r : Bs) : Option (Nat × Bs) :=
  if c = 109 ∧ r.head? = some 115 then some (4, r.tail) else (unit1 c).map fun k => (k, r)

theorem unitG_len {c r k r'} (h : unitG c r = some (k, r')) : r'.length ≤ r.length := by
  unfold unitG at h
  split at h
  · simp at h; rw [← h.2]; simp
  · cases hu : unit1 c with
    | none => simp [hu] at h
    | some k0 => simp [hu] at h; obtain ⟨_, rfl⟩ := h; exact Nat.le_refl _

/-- THE PACKAGE's WAY: the next unit that may come, the sum, the number at hand, whether there is one; what is left -/
def goP (u tot v : Nat) (h : Bool) (s : Bs) : Option Nat :=
  match s with
  | [] => if h then none else some tot
  | c :: r =>
    if 5 ≤ u then none
    else if dig c then (if mx < v * 10 + dv c then none else goP u tot (v * 10 + dv c) true r)
    else match _hu : unitG c r with
      | none => none
      | some (k, r') => if h = false then none else if k < u then none else if mx < v * size k then none else if mx < tot + v * size k then none else goP (k + 1) (tot + v * size k) 0 false r'
  termination_by s.length
  decreasing_by
    · simp
    · have := unitG_len _hu; simp; omega

def unitOf (s : Bs) : Option Nat :=
  if s = [100] then some 0 else if s = [104] then some 1 else if s = [109] then some 2 else if s = [115] then some 3 else if s = [109, 115] then some 4 else none
def val (s : Bs) : Nat := s.foldl (fun n c => n * 10 + dv c) 0
def lim : Nat := 9223372036854775808
/-- THE REFERENCE's WAY -/
def spP : Nat → Nat → Nat → Bs → Option Nat
  | 0, _, _, _ => none
  | f + 1, u, n, s =>
  if s = [] then some n
  else
    match unitOf ((s.dropWhile dig).takeWhile low) with
    | none => none
    | some k => if s.takeWhile dig = [] ∨ k < u then none else if lim < val (s.takeWhile dig) then none else if lim < val (s.takeWhile dig) * size k then none
      else if lim < n + val (s.takeWhile dig) * size k then none else spP f (k + 1) (n + val (s.takeWhile dig) * size k) ((s.dropWhile dig).dropWhile low)

/-- the numbers as they are -/
def pm : Nat → Nat → Nat → Bs → Option Nat
  | 0, _, _, _ => none
  | f + 1, u, n, s =>
  if s = [] then some n
  else
    match unitOf ((s.dropWhile dig).takeWhile low) with
    | none => none
    | some k => if s.takeWhile dig = [] ∨ k < u then none
      else pm f (k + 1) (n + val (s.takeWhile dig) * size k) ((s.dropWhile dig).dropWhile low)

theorem size_pos (k : Nat) : 1 ≤ size k := by
  unfold size; split <;> omega

theorem pm_ge : ∀ f u n s m, pm f u n s = some m → n ≤ m
  | 0, _, _, _, _, h => by cases h
  | f + 1, u, n, s, m, h => by
    unfold pm at h
    split at h
    · cases h; exact Nat.le_refl _
    · split at h
      · cases h
      · split at h
        · cases h
        · have := pm_ge _ _ _ _ _ h; omega

theorem spP_pm (f u n : Nat) (s : Bs) (hn : n ≤ lim) : spP f u n s = (pm f u n s).filter (· ≤ lim) := by
  induction f generalizing u n s with
  | zero => rfl
  | succ f ih =>
    unfold spP pm
    split
    · simp [Option.filter, hn]
    · split
      · rfl
      · rename_i k hk
        split
        · rfl
        · have hb : ∀ m, lim < m → (m ≤ n + val (s.takeWhile dig) * size k) → none = (pm f (k + 1) (n + val (s.takeWhile dig) * size k) ((s.dropWhile dig).dropWhile low)).filter (· ≤ lim) := by
            intro m h1 h2
            cases hp : pm f (k + 1) (n + val (s.takeWhile dig) * size k) ((s.dropWhile dig).dropWhile low) with
            | none => rfl
            | some z =>
              have := pm_ge _ _ _ _ _ hp
              simp [Option.filter]; omega
          have hs := size_pos k
          have hm : val (s.takeWhile dig) ≤ val (s.takeWhile dig) * size k := Nat.le_mul_of_pos_right _ hs
          split
          · exact hb _ ‹_› (by omega)
          · split
            · exact hb _ ‹_› (by omega)
            · split
              · exact hb _ ‹_› (Nat.le_refl _)
              · exact ih _ _ _ (by omega)


theorem goP_nil (u tot v : Nat) (h : Bool) : goP u tot v h [] = if h then none else some tot := by unfold goP; rfl
theorem goP_cons (u tot v : Nat) (h : Bool) (c : UInt8) (r : Bs) : goP u tot v h (c :: r) =
    if 5 ≤ u then none
    else if dig c then (if mx < v * 10 + dv c then none else goP u tot (v * 10 + dv c) true r)
    else match unitG c r with
      | none => none
      | some (k, r') => if h = false then none else if k < u then none else if mx < v * size k then none else if mx < tot + v * size k then none else goP (k + 1) (tot + v * size k) 0 false r' := by
  rw [goP.eq_def]
  simp only
  split
  · rfl
  · split
    · rfl
    · split <;> rename_i hx <;> simp [hx]

def valF (v : Nat) (s : Bs) : Nat := s.foldl (fun n c => n * 10 + dv c) v
theorem valF_ge (s : Bs) : ∀ v, v ≤ valF v s := by
  induction s with
  | nil => intro v; exact Nat.le_refl _
  | cons c s ih => intro v; have := ih (v * 10 + dv c); simp only [valF, List.foldl_cons] at this ⊢; omega

theorem goP_digits (u tot : Nat) (hu : u < 5) (r : Bs) : ∀ (ds : Bs) (v : Nat) (h : Bool), (∀ c ∈ ds, dig c = true) → v ≤ mx →
    goP u tot v h (ds ++ r) = if mx < valF v ds then none else goP u tot (valF v ds) (h || !ds.isEmpty) r
  | [], v, h, _, hv => by simp [valF]; omega
  | c :: ds, v, h, hd, hv => by
    rw [List.cons_append, goP_cons, if_neg (by omega), if_pos (hd c (by simp))]
    have hge := valF_ge ds (v * 10 + dv c)
    have e : valF v (c :: ds) = valF (v * 10 + dv c) ds := rfl
    rw [e]
    split
    · rw [if_pos (by omega)]
    · rw [goP_digits u tot hu r ds _ true (fun x hx => hd x (by simp [hx])) (by omega)]
      simp

theorem takeWhile_all (p : UInt8 → Bool) (s : Bs) : ∀ c ∈ s.takeWhile p, p c = true := by
  induction s with
  | nil => simp
  | cons x s ih =>
    intro c hc
    simp only [List.takeWhile_cons] at hc
    split at hc
    · rcases List.mem_cons.1 hc with rfl | hc
      · assumption
      · exact ih c hc
    · simp at hc

theorem dropWhile_head (p : UInt8 → Bool) (s : Bs) {c : UInt8} {r : Bs} (h : s.dropWhile p = c :: r) : p c = false := by
  induction s with
  | nil => simp at h
  | cons x s ih =>
    rw [List.dropWhile_cons] at h
    split at h
    · exact ih h
    · rename_i hx; cases h; simpa using hx

/-- a unit that is read: it stands there just so, or more letters follow and it is none -/
theorem unitG_name {c : UInt8} {r1 r' : Bs} {k : Nat} (h : unitG c r1 = some (k, r')) :
    k ≤ 4 ∧ ((unitOf ((c :: r1).takeWhile low) = some k ∧ (c :: r1).dropWhile low = r') ∨ (unitOf ((c :: r1).takeWhile low) = none ∧ ∃ x r2, r' = x :: r2 ∧ low x = true)) := by
  have key : ∀ (a : UInt8) (k : Nat), low a = true → unitOf [a] = some k → k ≤ 4 → (∀ x l, ¬ (a = 109 ∧ x = 115) → unitOf (a :: x :: l) = none) → ¬ (a = 109 ∧ r1.head? = some 115) →
      (unitOf ((a :: r1).takeWhile low) = some k ∧ (a :: r1).dropWhile low = r1) ∨ (unitOf ((a :: r1).takeWhile low) = none ∧ ∃ x r2, r1 = x :: r2 ∧ low x = true) := by
    intro a k ha hk _ hno hms
    cases r1 with
    | nil => left; simp [ha, hk]
    | cons x r2 =>
      by_cases hx : low x = true
      · right
        refine ⟨?_, x, r2, rfl, hx⟩
        rw [List.takeWhile_cons, if_pos ha, List.takeWhile_cons, if_pos hx]
        exact hno x _ (by simpa using hms)
      · left
        simp [ha, hx, hk]
  unfold unitG at h
  split at h
  · rename_i hm
    obtain ⟨rfl, hh⟩ := hm
    simp at h
    obtain ⟨rfl, rfl⟩ := h
    cases r1 with
    | nil => simp at hh
    | cons y r2 =>
      simp at hh
      subst hh
      refine ⟨by omega, ?_⟩
      have l1 : low 109 = true := by decide
      have l2 : low 115 = true := by decide
      cases r2 with
      | nil => left; simp [l1, l2, unitOf]
      | cons x r3 =>
        by_cases hx : low x = true
        · right
          refine ⟨?_, x, r3, rfl, hx⟩
          rw [List.takeWhile_cons, if_pos l1, List.takeWhile_cons, if_pos l2, List.takeWhile_cons, if_pos hx]
          simp [unitOf]
        · left
          simp [l1, l2, hx, unitOf]
  · rename_i hm
    cases hu : unit1 c with
    | none => simp [hu] at h
    | some k0 =>
      simp [hu] at h
      obtain ⟨rfl, rfl⟩ := h
      unfold unit1 at hu
      split at hu
      · cases hu; subst_vars; exact ⟨by omega, key 100 0 (by decide) rfl (by omega) (by intro x l _; simp [unitOf]) hm⟩
      · split at hu
        · cases hu; subst_vars; exact ⟨by omega, key 104 1 (by decide) rfl (by omega) (by intro x l _; simp [unitOf]) hm⟩
        · split at hu
          · cases hu; subst_vars; exact ⟨by omega, key 109 2 (by decide) rfl (by omega) (by intro x l h; simp at h; simp [unitOf, h]) hm⟩
          · split at hu
            · cases hu; subst_vars; exact ⟨by omega, key 115 3 (by decide) rfl (by omega) (by intro x l _; simp [unitOf]) hm⟩
            · cases hu

theorem unitG_none {c : UInt8} {r1 : Bs} (h : unitG c r1 = none) : unitOf ((c :: r1).takeWhile low) = none := by
  have h1 : unit1 c = none := by
    unfold unitG at h
    split at h
    · cases h
    · simpa using h
  rw [List.takeWhile_cons]
  split
  · unfold unit1 at h1
    split at h1 <;> try cases h1
    split at h1 <;> try cases h1
    split at h1 <;> try cases h1
    split at h1 <;> try cases h1
    simp [unitOf, *]
  · rfl

theorem unitOf_le {s : Bs} {k : Nat} (h : unitOf s = some k) : k ≤ 4 := by
  unfold unitOf at h
  repeat' (split at h; · cases h; omega)
  cases h

theorem goP_pm (f u n : Nat) (s : Bs) (hn : n ≤ mx) (hf : s.length < f) : goP u n 0 false s = (pm f u n s).filter (· ≤ mx) := by
  induction f generalizing u n s with
  | zero => omega
  | succ f ih =>
    unfold pm
    by_cases hs : s = []
    · subst hs
      rw [goP_nil, if_neg (by simp), if_pos rfl]
      simp [Option.filter, hn]
    · rw [if_neg hs]
      by_cases hu : 5 ≤ u
      · obtain ⟨c, r, rfl⟩ := List.exists_cons_of_ne_nil hs
        rw [goP_cons, if_pos hu]
        split
        · rfl
        · rename_i k hk
          have := unitOf_le hk
          rw [if_pos (by omega)]
          rfl
      · have hsplit : s.takeWhile dig ++ s.dropWhile dig = s := List.takeWhile_append_dropWhile
        have hall := takeWhile_all dig s
        have hd := goP_digits u n (by omega) (s.dropWhile dig) (s.takeWhile dig) 0 false hall (by unfold mx; omega)
        rw [hsplit] at hd
        rw [hd]
        have hv : valF 0 (s.takeWhile dig) = val (s.takeWhile dig) := rfl
        rw [hv]
        have hb : ∀ k m, mx < m → (m ≤ n + val (s.takeWhile dig) * size k) → none = (pm f (k + 1) (n + val (s.takeWhile dig) * size k) ((s.dropWhile dig).dropWhile low)).filter (· ≤ mx) := by
          intro k m h1 h2
          cases hp : pm f (k + 1) (n + val (s.takeWhile dig) * size k) ((s.dropWhile dig).dropWhile low) with
          | none => rfl
          | some z =>
            have := pm_ge _ _ _ _ _ hp
            simp [Option.filter]; omega
        have hm : ∀ k, val (s.takeWhile dig) ≤ val (s.takeWhile dig) * size k := fun k => Nat.le_mul_of_pos_right _ (size_pos k)
        by_cases hbig : mx < val (s.takeWhile dig)
        · rw [if_pos hbig]
          split
          · rfl
          · rename_i k hk
            split
            · rfl
            · exact hb k _ hbig (by have := hm k; omega)
        · rw [if_neg hbig]
          have hlen : (s.takeWhile dig).length + (s.dropWhile dig).length = s.length := by rw [← List.length_append, hsplit]
          cases hr : s.dropWhile dig with
          | nil =>
            have hds : s.takeWhile dig ≠ [] := by intro h; rw [h, hr] at hsplit; exact hs (by simpa using hsplit.symm)
            rw [goP_nil]
            have : (false || !(s.takeWhile dig).isEmpty) = true := by simpa using hds
            rw [if_pos this]
            rfl
          | cons c r1 =>
            have hc := dropWhile_head dig s hr
            rw [goP_cons, if_neg hu, hc]
            simp only [Bool.false_eq_true, if_false]
            cases hg : unitG c r1 with
            | none => rw [unitG_none hg]; rfl
            | some kr =>
              obtain ⟨k, r'⟩ := kr
              obtain ⟨hk4, hcase⟩ := unitG_name hg
              have hl' := unitG_len hg
              simp only
              rcases hcase with ⟨h1, h2⟩ | ⟨h1, x, r2, rfl, hx⟩
              · rw [h1]
                simp only
                by_cases hds : s.takeWhile dig = []
                · rw [hds]; simp
                · have : (false || !(s.takeWhile dig).isEmpty) = true := by simpa using hds
                  rw [this, if_neg (by simp)]
                  by_cases hku : k < u
                  · rw [if_pos hku, if_pos (.inr hku)]; rfl
                  · rw [if_neg hku, if_neg (show ¬ (s.takeWhile dig = [] ∨ k < u) from by simp [hds]; omega)]
                    rw [hr] at hb
                    split
                    · exact hb k _ ‹_› (by omega)
                    · split
                      · exact hb k _ ‹_› (Nat.le_refl _)
                      · rw [h2]
                        refine ih _ _ _ (by omega) ?_
                        rw [hr] at hlen
                        have : (s.takeWhile dig).length ≠ 0 := by simpa using hds
                        simp at hlen
                        omega
              · rw [h1]
                simp only [Option.filter_none]
                have hxd : dig x = false := by
                  revert hx; unfold low dig; simp only [Bool.and_eq_true, decide_eq_true_eq, Bool.and_eq_false_iff, decide_eq_false_iff_not, UInt8.le_iff_toNat_le]
                  intro h; right; simp at h ⊢; omega
                split
                · rfl
                · split
                  · rfl
                  · split
                    · rfl
                    · split
                      · rfl
                      · rw [goP_cons]
                        split
                        · rfl
                        · rw [hxd]; simp only [Bool.false_eq_true, if_false]
                          split <;> simp

/-- THE TWO WAYS AGREE, but that the reference would take the sum that the package's cannot hold -/
theorem goP_spP (f : Nat) (s : Bs) (hf : s.length < f) : goP 0 0 0 false s = (spP f 0 0 s).filter (· ≠ lim) := by
  rw [goP_pm f 0 0 s (Nat.zero_le _) hf, spP_pm f 0 0 s (Nat.zero_le _)]
  cases pm f 0 0 s with
  | none => rfl
  | some m =>
    simp only [Option.filter, mx, lim]
    by_cases h : m ≤ 9223372036854775807
    · simp [h, show m ≤ 9223372036854775808 by omega, show m ≠ 9223372036854775808 by omega]
    · by_cases h2 : m = 9223372036854775808
      · subst h2; simp
      · simp [h, show ¬ m ≤ 9223372036854775808 by omega]
end Go.Proofs.YthbdcekcockhfaaDoor.PD
