/-
  PLAIN LAW: the package's way of matching a pattern (greedy, from the left) answers as 'some choice of strings in the place of the wildcards'. No program in sight.
-/
namespace Go.Proofs.Ythbdcekcockhfaa.PM
abbrev Bs := List UInt8
def tailM : List Bs → Bs → Prop
  | [], _ => False
  | q :: r, s => ∃ a b, s = a ++ q ++ b ∧ (if r = [] then b = [] else tailM r b)
def full : List Bs → Bs → Prop
  | [], s => s = []
  | p :: r, s => ∃ b, s = p ++ b ∧ (if r = [] then b = [] else tailM r b)

/-- what is left of a text behind a piece at its head -/
def chunk : Bs → Bs → Option Bs
  | [], s => some s
  | _ :: _, [] => none
  | c :: cs, x :: s => if c = x then chunk cs s else none

theorem chunk_some {p s t : Bs} : chunk p s = some t ↔ s = p ++ t := by
  induction p generalizing s with
  | nil => simp [chunk, eq_comm]
  | cons c cs ih =>
    cases s with
    | nil => simp [chunk]
    | cons x s =>
      simp only [chunk]
      split
      · rename_i h; subst h; simp [ih]
      · rename_i h; simp [Ne.symm h]

def srch (lit : Bs) (last : Bool) : Bs → Option Bs
  | [] => none
  | _ :: r => match chunk lit r with
    | some t => if last && !t.isEmpty then srch lit last r else some t
    | none => srch lit last r

def goM : List (Bool × Bs) → Bs → Bool
  | [], arg => arg.isEmpty
  | (w, lit) :: r, arg =>
    if w && lit.isEmpty then true
    else match chunk lit arg with
      | some t => if t.isEmpty || !r.isEmpty then goM r t else if w then
          (match srch lit r.isEmpty arg with | some t => goM r t | none => false) else false
      | none => if w then (match srch lit r.isEmpty arg with | some t => goM r t | none => false) else false

/-- the components as a pattern: a wildcard's piece behind anything -/
def compM : List (Bool × Bs) → Bs → Prop
  | [], s => s = []
  | (false, l) :: r, s => ∃ b, s = l ++ b ∧ compM r b
  | (true, l) :: r, s => if r = [] ∧ l = [] then True else ∃ a b, s = a ++ l ++ b ∧ compM r b

/-- all components behind the first one have a wildcard, and only the last one may have no letters -/
def good : List (Bool × Bs) → Prop
  | [] => True
  | (_, l) :: r => (∀ x ∈ r, x.1 = true) ∧ (l = [] → r = []) ∧ good r

theorem good_tail {c : Bool × Bs} {r} (h : good (c :: r)) : good r := by
  obtain ⟨_, _⟩ := c; exact h.2.2

/-- more letters ahead do not hurt where every component has a wildcard -/
theorem compM_more {r : List (Bool × Bs)} (hr : ∀ x ∈ r, x.1 = true) (hne : r ≠ []) (a s : Bs) (h : compM r s) : compM r (a ++ s) := by
  match r, hne with
  | (w, l) :: r', _ =>
    have hw : w = true := hr (w, l) (by simp)
    subst hw
    simp only [compM] at h ⊢
    split
    · trivial
    · rename_i hn
      rw [if_neg hn] at h
      obtain ⟨x, b, rfl, hb⟩ := h
      exact ⟨a ++ x, b, by simp, hb⟩

theorem srch_none {lit : Bs} {last : Bool} {arg : Bs} (h : srch lit last arg = none) :
    ∀ a b, arg = a ++ lit ++ b → a ≠ [] → last = true ∧ b ≠ [] := by
  induction arg with
  | nil => intro a b e ha; simp at e; exact absurd e.1 ha
  | cons x r ih =>
    intro a b e ha
    match a, ha with
    | y :: a', _ =>
      simp at e
      obtain ⟨rfl, rfl⟩ := e
      simp only [srch] at h
      by_cases ha' : a' = []
      · subst ha'
        have hc : chunk lit ([] ++ (lit ++ b)) = some b := chunk_some.2 (by simp)
        rw [hc] at h
        simp only at h
        split at h
        · rename_i hl; simp at hl; exact ⟨hl.1, by simpa using hl.2⟩
        · simp at h
      · refine ih ?_ a' b (by simp) ha'
        split at h
        · split at h
          · exact h
          · simp at h
        · exact h

theorem srch_some {lit : Bs} {last : Bool} {arg t : Bs} (h : srch lit last arg = some t) :
    ∃ a, arg = a ++ lit ++ t ∧ a ≠ [] ∧ (last = true → t = []) ∧ ∀ a' b, arg = a' ++ lit ++ b → a' ≠ [] → (last = true → b = []) → a.length ≤ a'.length := by
  induction arg with
  | nil => simp [srch] at h
  | cons x r ih =>
    simp only [srch] at h
    have step : srch lit last r = some t → (∀ b, r = lit ++ b → last = true ∧ b ≠ []) → ∃ a, x :: r = a ++ lit ++ t ∧ a ≠ [] ∧ (last = true → t = []) ∧ ∀ a' b, x :: r = a' ++ lit ++ b → a' ≠ [] → (last = true → b = []) → a.length ≤ a'.length := by
      intro h hno
      obtain ⟨a, e, ha, hl, hm⟩ := ih h
      refine ⟨x :: a, by simp [e], by simp, hl, ?_⟩
      intro a' b e' ha' hb
      match a', ha' with
      | y :: a'', _ =>
        simp at e'
        obtain ⟨rfl, e'⟩ := e'
        by_cases ha2 : a'' = []
        · subst ha2
          obtain ⟨h1, h2⟩ := hno b (by simpa using e')
          exact absurd (hb h1) h2
        · have := hm a'' b (by simp [e']) ha2 hb
          simpa using this
    split at h
    · rename_i t' hc
      have hc' := chunk_some.1 hc
      split at h
      · rename_i hl
        simp at hl
        refine step h fun b hb => ?_
        rw [hc'] at hb
        have := List.append_cancel_left hb
        subst this
        exact ⟨hl.1, hl.2⟩
      · rename_i hl
        simp at h
        subst h
        refine ⟨[x], by simp [hc'], by simp, ?_, ?_⟩
        · intro h1; simp [h1] at hl; exact hl
        · intro a' b _ ha' _
          cases a' with
          | nil => exact absurd rfl ha'
          | cons => simp
    · rename_i hc
      refine step h fun b hb => ?_
      rw [chunk_some.2 hb] at hc
      cases hc

theorem goM_iff : ∀ (l : List (Bool × Bs)) (arg : Bs), good l → (goM l arg = true ↔ compM l arg)
  | [], arg, _ => by simp [goM, compM]
  | (w, lit) :: r, arg, hg => by
    have ih := fun t => goM_iff r t (good_tail hg)
    obtain ⟨hall, hlast, _⟩ := hg
    unfold goM
    by_cases hw : (w && lit.isEmpty) = true
    · rw [if_pos hw]
      simp at hw
      obtain ⟨rfl, rfl⟩ := hw
      simp [compM, hlast rfl]
    · rw [if_neg hw]
      have hrE : r.isEmpty = true ↔ r = [] := by simp
      -- the search, under a wildcard
      have search : w = true → (∀ b, arg = lit ++ b → r = [] ∧ b ≠ []) → ((match srch lit r.isEmpty arg with | some t => goM r t | none => false) = true ↔ compM ((w, lit) :: r) arg) := by
        intro hwt hno
        subst hwt
        have hlit : lit ≠ [] := by simpa using hw
        simp only [compM, hlit, and_false, if_false]
        cases hs : srch lit r.isEmpty arg with
        | none =>
          simp only [Bool.false_eq_true, false_iff]
          rintro ⟨a, b, e, hb⟩
          by_cases ha : a = []
          · subst ha
            obtain ⟨h1, h2⟩ := hno b (by simpa using e)
            subst h1
            exact h2 hb
          · obtain ⟨h1, h2⟩ := srch_none hs a b e ha
            have hr := hrE.1 h1
            subst hr
            exact h2 hb
        | some t =>
          simp only [ih]
          obtain ⟨a, e, ha, hl, hm⟩ := srch_some hs
          constructor
          · intro h; exact ⟨a, t, e, h⟩
          · rintro ⟨a', b, e', hb⟩
            by_cases hr : r = []
            · subst hr
              simp [compM]
              exact hl (by simp)
            · have ha' : a' ≠ [] := by
                intro h0
                subst h0
                exact hr (hno b (by simpa using e')).1
              have hlen := hm a' b e' ha' (fun h => absurd (hrE.1 h) hr)
              -- t = x ++ b
              have hsplit : ∃ x, t = x ++ b := by
                have e2 : a ++ (lit ++ t) = a' ++ (lit ++ b) := by rw [← List.append_assoc, ← List.append_assoc, ← e, ← e']
                obtain ⟨x, hx⟩ : ∃ x, a' = a ++ x := by
                  refine ⟨a'.drop a.length, ?_⟩
                  have := congrArg (List.take a.length) e2
                  rw [List.take_left, List.take_append_of_le_length hlen] at this
                  rw [← List.take_append_drop a.length a', ← this]
                  simp
                subst hx
                rw [List.append_assoc] at e2
                have e3 := List.append_cancel_left e2
                have e4 := congrArg (List.drop (lit.length + x.length)) e3
                refine ⟨t.take x.length, ?_⟩
                have h5 : List.drop (lit.length + x.length) (lit ++ t) = t.drop x.length := by
                  rw [← List.drop_drop, List.drop_left]
                have h6 : List.drop (lit.length + x.length) (x ++ (lit ++ b)) = b := by
                  rw [Nat.add_comm, ← List.drop_drop, List.drop_left, List.drop_left]
                rw [h5, h6] at e4
                rw [← e4]
                simp
              obtain ⟨x, rfl⟩ := hsplit
              exact compM_more hall hr x b hb
      cases hc : chunk lit arg with
      | none =>
        have hno : ∀ b, arg ≠ lit ++ b := fun b hb => by rw [chunk_some.2 hb] at hc; cases hc
        simp only
        cases w with
        | true =>
          simp only [if_true]
          exact search rfl (fun b hb => absurd hb (hno b))
        | false =>
          simp only [Bool.false_eq_true, if_false, compM, false_iff]
          rintro ⟨b, e, _⟩
          exact hno b e
      | some t =>
        have he := chunk_some.1 hc
        simp only
        by_cases ht : (t.isEmpty || !r.isEmpty) = true
        · rw [if_pos ht, ih]
          cases w with
          | false =>
            simp only [compM]
            constructor
            · intro h; exact ⟨t, he, h⟩
            · rintro ⟨b, e, hb⟩
              rw [he] at e
              have := List.append_cancel_left e
              subst this; exact hb
          | true =>
            have hlit : lit ≠ [] := by simpa using hw
            simp only [compM, hlit, and_false, if_false]
            constructor
            · intro h; exact ⟨[], t, by simpa using he, h⟩
            · rintro ⟨a, b, e, hb⟩
              by_cases hr : r = []
              · subst hr
                simp at ht
                subst ht
                simp [compM]
              · have hsplit : ∃ x, t = x ++ b := by
                  have e3 : lit ++ t = a ++ (lit ++ b) := by rw [← List.append_assoc, ← e, he]
                  have e4 := congrArg (List.drop (lit.length + a.length)) e3
                  refine ⟨t.take a.length, ?_⟩
                  have h5 : List.drop (lit.length + a.length) (lit ++ t) = t.drop a.length := by
                    rw [← List.drop_drop, List.drop_left]
                  have h6 : List.drop (lit.length + a.length) (a ++ (lit ++ b)) = b := by
                    rw [Nat.add_comm, ← List.drop_drop, List.drop_left, List.drop_left]
                  rw [h5, h6] at e4
                  rw [← e4]; simp
                obtain ⟨x, rfl⟩ := hsplit
                exact compM_more hall hr x b hb
        · rw [if_neg ht]
          have hr : r = [] := by
            cases r with
            | nil => rfl
            | cons => simp at ht
          have htne : t ≠ [] := by intro h; subst h; simp at ht
          cases w with
          | true =>
            simp only [if_true]
            refine search rfl fun b hb => ⟨hr, ?_⟩
            rw [he] at hb
            have := List.append_cancel_left hb
            subst this; exact htne
          | false =>
            simp only [Bool.false_eq_true, if_false, compM, false_iff]
            rintro ⟨b, e, hb⟩
            rw [he] at e
            have := List.append_cancel_left e
            subst this
            subst hr
            exact htne hb

/-! ### from the pieces to the components -/
def itemsOf : List Bs → List (Option Bs)
  | [] => []
  | p :: r => (if p = [] then [] else [some p]) ++ r.flatMap (fun q => none :: (if q = [] then [] else [some q]))

def stepC (cs : List (Bool × Bs)) : Option Bs → List (Bool × Bs)
  | some v => if cs = [] then [(false, v)] else cs.dropLast ++ [((cs.getLastD (false, [])).1, (cs.getLastD (false, [])).2 ++ v)]
  | none => if cs = [] ∨ (cs.getLastD (false, [])).2 ≠ [] then cs ++ [(true, [])] else cs

def restN (r : List Bs) : List (Bool × Bs) :=
  (r.filter (fun q => !q.isEmpty)).map (fun q => (true, q)) ++ (if r.getLastD [0] = [] then [(true, [])] else [])
def norm : List Bs → List (Bool × Bs)
  | [] => []
  | p :: r => (if p = [] then [] else [(false, p)]) ++ restN r

theorem getLastD_snoc {α : Type} (l : List α) (x d : α) : (l ++ [x]).getLastD d = x := by
  simp [List.getLastD_eq_getLast?]

theorem itemsOf_snoc (p : Bs) (r : List Bs) (q : Bs) : itemsOf (p :: (r ++ [q])) = itemsOf (p :: r) ++ (none :: (if q = [] then [] else [some q])) := by
  simp [itemsOf]

theorem restN_cons (q : Bs) (r : List Bs) (h : r ≠ []) : restN (q :: r) = (if q = [] then [] else [(true, q)]) ++ restN r := by
  cases r with
  | nil => exact absurd rfl h
  | cons y r =>
    unfold restN
    by_cases hq : q = [] <;> simp [hq]

theorem restN_one (q : Bs) : restN [q] = [(true, q)] := by
  unfold restN
  by_cases hq : q = [] <;> simp [hq]

theorem restN_snoc (r : List Bs) (q : Bs) : restN (r ++ [q]) = (r.filter (fun q => !q.isEmpty)).map (fun q => (true, q)) ++ [(true, q)] := by
  unfold restN
  rw [getLastD_snoc]
  by_cases hq : q = [] <;> simp [hq]

theorem norm_good (l : List Bs) : good (norm l) := by
  have hr : ∀ r : List Bs, good (restN r) ∧ ∀ x ∈ restN r, x.1 = true := by
    intro r
    induction r with
    | nil => simp [restN, good]
    | cons q r ih =>
      by_cases h : r = []
      · subst h; rw [restN_one]; simp [good]
      · rw [restN_cons q r h]
        by_cases hq : q = []
        · simp [hq]; exact ⟨ih.1, fun b h => by have := ih.2 (false, b) h; simp at this⟩
        · simp only [hq, if_false, List.cons_append, List.nil_append, good, false_implies, true_and]
          exact ⟨⟨ih.2, ih.1⟩, fun x hx => by
            rcases List.mem_cons.1 hx with rfl | hx
            · rfl
            · exact ih.2 x hx⟩
  cases l with
  | nil => simp [norm, good]
  | cons p r =>
    by_cases hp : p = []
    · simp [norm, hp]; exact (hr r).1
    · simp [norm, hp, good]; exact ⟨fun b h => by have := (hr r).2 (false, b) h; simp at this, (hr r).1⟩

theorem norm_snoc (p : Bs) (r : List Bs) (q : Bs) : norm (p :: (r ++ [q])) = (none :: (if q = [] then [] else [some q])).foldl stepC (norm (p :: r)) := by
  have hs := restN_snoc r q
  have hn : norm (p :: (r ++ [q])) = ((if p = [] then [] else [(false, p)]) ++ (r.filter (fun q => !q.isEmpty)).map (fun q => (true, q))) ++ [(true, q)] := by
    simp only [norm, hs, List.append_assoc]
  rw [hn]
  -- the state behind the wildcard
  have h1 : stepC (norm (p :: r)) none = ((if p = [] then [] else [(false, p)]) ++ (r.filter (fun q => !q.isEmpty)).map (fun q => (true, q))) ++ [(true, [])] := by
    by_cases hl : r.getLastD [0] = []
    · have e : norm (p :: r) = ((if p = [] then [] else [(false, p)]) ++ (r.filter (fun q => !q.isEmpty)).map (fun q => (true, q))) ++ [(true, [])] := by
        simp only [norm, restN, hl, if_true, List.append_assoc]
      rw [e]
      simp only [stepC, getLastD_snoc]
      simp
    · have e : norm (p :: r) = ((if p = [] then [] else [(false, p)]) ++ (r.filter (fun q => !q.isEmpty)).map (fun q => (true, q))) := by
        simp only [norm, restN, hl, if_false, List.append_nil]
      rw [e]
      simp only [stepC]
      rw [if_pos]
      by_cases hr : r = []
      · subst hr
        by_cases hp : p = []
        · left; simp [hp]
        · right; simp [hp]
      · right
        obtain ⟨r', y, rfl⟩ : ∃ r' y, r = r' ++ [y] := ⟨r.dropLast, r.getLast hr, (List.dropLast_concat_getLast hr).symm⟩
        rw [getLastD_snoc] at hl
        have : (List.filter (fun q : Bs => !q.isEmpty) (r' ++ [y])) = List.filter (fun q => !q.isEmpty) r' ++ [y] := by
          simp [List.filter_append, hl]
        rw [this, List.map_append, ← List.append_assoc]
        simp only [List.map_cons, List.map_nil, getLastD_snoc]
        exact hl
  simp only [List.foldl_cons, h1]
  by_cases hq : q = []
  · simp [hq]
  · simp only [hq, if_false, List.foldl_cons, List.foldl_nil, stepC, getLastD_snoc]
    simp

theorem norm_fold (l : List Bs) : (itemsOf l).foldl stepC [] = norm l := by
  cases l with
  | nil => rfl
  | cons p r =>
    suffices h : ∀ n, ∀ r : List Bs, r.length = n → (itemsOf (p :: r)).foldl stepC [] = norm (p :: r) from h _ r rfl
    intro n
    induction n with
    | zero =>
      intro r hr
      have := List.length_eq_zero_iff.1 hr
      subst this
      by_cases hp : p = [] <;> simp [itemsOf, norm, restN, hp, stepC]
    | succ n ih =>
      intro r hr
      have hne : r ≠ [] := by intro h; subst h; simp at hr
      obtain ⟨r', y, rfl⟩ : ∃ r' y, r = r' ++ [y] := ⟨r.dropLast, r.getLast hne, (List.dropLast_concat_getLast hne).symm⟩
      rw [itemsOf_snoc, List.foldl_append, ih r' (by simpa using hr), norm_snoc]

theorem tailM_more {r : List Bs} (a s : Bs) (h : tailM r s) : tailM r (a ++ s) := by
  cases r with
  | nil => exact h
  | cons q r =>
    obtain ⟨x, b, rfl, hb⟩ := h
    exact ⟨a ++ x, b, by simp, hb⟩

theorem restN_iff : ∀ (r : List Bs) (s : Bs), r ≠ [] → (compM (restN r) s ↔ tailM r s)
  | [], _, h => absurd rfl h
  | [q], s, _ => by
    rw [restN_one]
    by_cases hq : q = []
    · simp [compM, tailM, hq]
    · simp [compM, tailM, hq]
  | q :: y :: r, s, _ => by
    have ih := fun s => restN_iff (y :: r) s (by simp)
    rw [restN_cons q (y :: r) (by simp)]
    by_cases hq : q = []
    · subst hq
      simp only [if_true, List.nil_append, ih]
      rw [show tailM ([] :: y :: r) s = ∃ a b, s = a ++ [] ++ b ∧ (if y :: r = [] then b = [] else tailM (y :: r) b) from rfl]
      simp only [reduceCtorEq, if_false]
      constructor
      · intro h; exact ⟨[], s, by simp, h⟩
      · rintro ⟨a, b, rfl, h⟩
        simpa using tailM_more a b h
    · rw [if_neg hq, show tailM (q :: y :: r) s = ∃ a b, s = a ++ q ++ b ∧ (if y :: r = [] then b = [] else tailM (y :: r) b) from rfl]
      simp only [List.cons_append, List.nil_append, compM, hq, and_false, if_false, reduceCtorEq, ih]

theorem norm_iff : ∀ (l : List Bs) (s : Bs), compM (norm l) s ↔ full l s
  | [], s => by simp [norm, compM, full]
  | p :: r, s => by
    by_cases hr : r = []
    · subst hr
      by_cases hp : p = [] <;> simp [norm, compM, full, hp, restN]
    · have ih := fun s => restN_iff r s hr
      by_cases hp : p = []
      · simp [norm, hp, full, hr, ih]
      · simp [norm, hp, full, hr, ih, compM]

/-- THE PACKAGE's WAY IS THE PLAIN ONE. -/
theorem goM_full (l : List Bs) (s : Bs) : goM ((itemsOf l).foldl stepC []) s = true ↔ full l s := by
  rw [norm_fold, goM_iff _ _ (norm_good l), norm_iff]

/-! ### two patterns, one behind the other -/
theorem tail_join {q0 : Bs} {qs : List Bs} {t : Bs} (ht : full (q0 :: qs) t) : ∀ (r : List Bs) (s : Bs) (h : r ≠ []), tailM r s → tailM (r.dropLast ++ (r.getLast h ++ q0) :: qs) (s ++ t)
  | [], _, h, _ => absurd rfl h
  | [x], s, _, hs => by
    obtain ⟨a, b, rfl, hb⟩ := hs
    simp at hb
    subst hb
    obtain ⟨c, rfl, hc⟩ := ht
    exact ⟨a, c, by simp, hc⟩
  | x :: y :: r, s, _, hs => by
    obtain ⟨a, b, rfl, hb⟩ := hs
    simp only [reduceCtorEq, if_false] at hb
    have ih := tail_join ht (y :: r) b (by simp) hb
    show tailM (x :: ((y :: r).dropLast ++ ((y :: r).getLast (by simp) ++ q0) :: qs)) (a ++ x ++ b ++ t)
    exact ⟨a, b ++ t, by simp, by rw [if_neg (by simp)]; exact ih⟩

theorem full_join {q0 : Bs} {qs : List Bs} {t : Bs} (ht : full (q0 :: qs) t) (p : List Bs) (s : Bs) (h : p ≠ []) (hs : full p s) : full (p.dropLast ++ (p.getLast h ++ q0) :: qs) (s ++ t) := by
  cases p with
  | nil => exact absurd rfl h
  | cons x r =>
    obtain ⟨b, rfl, hb⟩ := hs
    cases r with
    | nil =>
      simp at hb
      subst hb
      obtain ⟨c, rfl, hc⟩ := ht
      exact ⟨c, by simp, hc⟩
    | cons y r =>
      simp only [reduceCtorEq, if_false] at hb
      have ih := tail_join ht (y :: r) b (by simp) hb
      show full (x :: ((y :: r).dropLast ++ ((y :: r).getLast (by simp) ++ q0) :: qs)) (x ++ b ++ t)
      exact ⟨b ++ t, by simp, by rw [if_neg (by simp)]; exact ih⟩

theorem full_two (s t : Bs) : full [s, t] (s ++ t) := ⟨t, rfl, by simp [tailM]⟩

/-! ### the reference -/
theorem tail_last (l u : Bs) : tailM [l] u ↔ l.length ≤ u.length ∧ u.drop (u.length - l.length) = l := by
  constructor
  · rintro ⟨a, b, rfl, hb⟩
    simp at hb
    subst hb
    simp
  · rintro ⟨h1, h2⟩
    refine ⟨u.take (u.length - l.length), [], ?_, by simp⟩
    rw [List.append_nil]
    conv => lhs; rw [← List.take_append_drop (u.length - l.length) u, h2]

theorem tail_step (q : Bs) (r : List Bs) (hr : r ≠ []) (u : Bs) : tailM (q :: r) u ↔ (∃ b, u = q ++ b ∧ tailM r b) ∨ (∃ x u', u = x :: u' ∧ tailM (q :: r) u') := by
  constructor
  · rintro ⟨a, b, rfl, hb⟩
    rw [if_neg hr] at hb
    cases a with
    | nil => left; exact ⟨b, by simp, hb⟩
    | cons x a => right; exact ⟨x, a ++ q ++ b, by simp, a, b, rfl, by rw [if_neg hr]; exact hb⟩
  · rintro (⟨b, rfl, hb⟩ | ⟨x, u', rfl, h⟩)
    · exact ⟨[], b, by simp, by rw [if_neg hr]; exact hb⟩
    · exact tailM_more [x] u' h
end Go.Proofs.Ythbdcekcockhfaa.PM
