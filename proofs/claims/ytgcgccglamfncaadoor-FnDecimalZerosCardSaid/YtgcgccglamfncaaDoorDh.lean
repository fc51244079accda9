/-
  FnDecimalParses: the plain law: what the package reads is what the reference reads.
-/
import Derived.Test.YtgcgccglamfncaaDoorDg
namespace Go.Proofs.YtgcgccglamfncaaDoor.Dec

abbrev Bs := List UInt8
def allDig (l : Bs) : Prop := ∀ c ∈ l, PD.dig c = true

theorem valF_append (v : Nat) (a b : Bs) : PD.valF v (a ++ b) = PD.valF (PD.valF v a) b := by unfold PD.valF; rw [List.foldl_append]
theorem val_valF (a : Bs) : PD.val a = PD.valF 0 a := rfl
theorem valF_pow (a : Bs) : ∀ v, PD.valF v a = v * 10 ^ a.length + PD.val a := by
  induction a with
  | nil => intro v; simp [PD.valF, PD.val]
  | cons c a ih =>
    intro v
    have e1 : PD.valF v (c :: a) = PD.valF (v * 10 + PD.dv c) a := rfl
    have e2 : PD.val (c :: a) = PD.valF (0 * 10 + PD.dv c) a := rfl
    rw [e1, e2, ih, ih (0 * 10 + PD.dv c), List.length_cons]
    simp only [Nat.zero_mul, Nat.zero_add, Nat.add_mul, Nat.pow_succ]
    have : v * 10 * 10 ^ a.length = v * (10 ^ a.length * 10) := by rw [Nat.mul_assoc, Nat.mul_comm 10]
    omega
theorem val_append (a b : Bs) : PD.val (a ++ b) = PD.val a * 10 ^ b.length + PD.val b := by
  rw [val_valF, valF_append, valF_pow]; rfl
theorem val_zeros : ∀ k, PD.val (List.replicate k 48) = 0
  | 0 => rfl
  | k + 1 => by
    have : PD.val (List.replicate (k + 1) (48 : UInt8)) = PD.val (List.replicate k 48) := rfl
    rw [this, val_zeros k]
theorem dv_lt {c : UInt8} (h : PD.dig c = true) : PD.dv c < 10 := by have := dig_iff.1 h; unfold PD.dv; omega
theorem val_lt : ∀ (a : Bs), allDig a → PD.val a < 10 ^ a.length
  | [], _ => by simp [PD.val]
  | c :: a, h => by
    have h1 := dv_lt (h c (by simp))
    have h2 := val_lt a (fun x hx => h x (by simp [hx]))
    have e : PD.val (c :: a) = PD.val [c] * 10 ^ a.length + PD.val a := val_append [c] a
    have e1 : PD.val [c] = PD.dv c := by simp [PD.val]
    rw [e, e1, List.length_cons, Nat.pow_succ]
    have : PD.dv c * 10 ^ a.length ≤ 9 * 10 ^ a.length := Nat.mul_le_mul_right _ (by omega)
    omega

/-! ### the library's readers -/
theorem uM_of (M : Nat) (hM : M ≤ 18446744073709551615) : ∀ (l : Bs) (acc : Nat), allDig l → PD.valF acc l ≤ M → Lib.parseUintM M acc l = .ok (PD.valF acc l)
  | [], acc, _, _ => rfl
  | c :: r, acc, hd, hv => by
    have hc := dig_iff.1 (hd c (by simp))
    have e : PD.valF acc (c :: r) = PD.valF (acc * 10 + (c.toNat - 48)) r := rfl
    rw [e] at hv ⊢
    have hge := PD.valF_ge r (acc * 10 + (c.toNat - 48))
    simp only [Lib.parseUintM]
    rw [if_pos hc, if_neg (by omega), if_neg (by omega)]
    exact uM_of M hM r _ (fun x hx => hd x (by simp [hx])) hv
theorem uM_inv (M : Nat) : ∀ (l : Bs) (acc u : Nat), acc ≤ M → Lib.parseUintM M acc l = .ok u → allDig l ∧ PD.valF acc l ≤ M ∧ u = PD.valF acc l
  | [], acc, u, ha, h => by
    simp only [Lib.parseUintM] at h
    injection h with h
    subst h
    exact ⟨fun c hc => by simp at hc, ha, rfl⟩
  | c :: r, acc, u, ha, h => by
    simp only [Lib.parseUintM] at h
    split at h
    · rename_i hc
      split at h
      · cases h
      · split at h
        · cases h
        · obtain ⟨a, b, d⟩ := uM_inv M r _ u (by omega) h
          refine ⟨fun x hx => ?_, b, d⟩
          rcases List.mem_cons.1 hx with rfl | hx
          · exact dig_iff.2 hc
          · exact a x hx
    · cases h
theorem uB_of (B : Nat) (hB : 2 ^ B - 1 ≤ 18446744073709551615) (l : Bs) (hne : l ≠ []) (hd : allDig l) (hv : PD.val l ≤ 2 ^ B - 1) : Lib.parseUintB B l = .ok (PD.val l) := by
  unfold Lib.parseUintB
  rw [if_neg hne]
  exact uM_of _ hB l 0 hd hv
theorem uB_inv (B : Nat) (l : Bs) (u : Nat) (h : Lib.parseUintB B l = .ok u) : l ≠ [] ∧ allDig l ∧ PD.val l ≤ 2 ^ B - 1 ∧ u = PD.val l := by
  unfold Lib.parseUintB at h
  split at h
  · cases h
  · rename_i hne
    exact ⟨hne, uM_inv _ l 0 u (Nat.zero_le _) h⟩

/-- a text's sign and what is behind it -/
def cutS (l : Bs) : Bool × Bs := match l with | [] => (false, []) | c :: r => if c = 45 then (true, r) else if c = 43 then (false, r) else (false, c :: r)
theorem toNat_eq {c : UInt8} {n : Nat} (hn : n < 256) : c.toNat = n ↔ c = UInt8.ofNat n := by
  constructor
  · intro h
    apply UInt8.toNat_inj.1
    rw [h]
    simp
    omega
  · rintro rfl
    simp
    omega
theorem int_eq (l : Bs) (hl : l ≠ []) : Lib.parseIntB 64 l = match Lib.parseUintB 64 (cutS l).2 with
    | .syntax => .syntax
    | .range => .range
    | .ok u => if (cutS l).1 = false ∧ 9223372036854775808 ≤ u then .range else if (cutS l).1 = true ∧ 9223372036854775808 < u then .range else .ok (sgn (cutS l).1 u) := by
  match l, hl with
  | c :: r, _ =>
    have e45 : c.toNat = 45 ↔ c = 45 := toNat_eq (by omega)
    have e43 : c.toNat = 43 ↔ c = 43 := toNat_eq (by omega)
    simp only [Lib.parseIntB, e45, e43, cutS]
    by_cases h1 : c = 45
    · subst h1
      simp only [if_true, or_true]
      cases Lib.parseUintB 64 r <;> simp [sgn]
    · by_cases h2 : c = 43
      · subst h2
        simp only [h1, if_true, if_false, or_false]
        cases Lib.parseUintB 64 r <;> simp [sgn]
      · simp only [h1, h2, if_false, or_false]
        cases Lib.parseUintB 64 (c :: r) <;> simp [sgn]

theorem int_of (l : Bs) (neg : Bool) (ds : Bs) (hc : cutS l = (neg, ds)) (hne : ds ≠ []) (hd : allDig ds) (hv : PD.val ds ≤ 9223372036854775807 ∨ (neg = true ∧ PD.val ds = 9223372036854775808)) : Lib.parseIntB 64 l = .ok (sgn neg (PD.val ds)) := by
  have hl : l ≠ [] := by
    rintro rfl
    simp [cutS] at hc
    exact hne hc.2
  rw [int_eq l hl, hc]
  simp only []
  rw [uB_of 64 (by decide) ds hne hd (by omega)]
  simp only []
  rw [if_neg (by rintro ⟨h1, h2⟩; rcases hv with h | ⟨h, _⟩; · omega
                 · rw [h1] at h; cases h), if_neg (by rintro ⟨h1, h2⟩; omega)]
theorem int_inv (l : Bs) (v : Int) (h : Lib.parseIntB 64 l = .ok v) : l ≠ [] ∧ (cutS l).2 ≠ [] ∧ allDig (cutS l).2 ∧ v = sgn (cutS l).1 (PD.val (cutS l).2) ∧ (PD.val (cutS l).2 ≤ 9223372036854775807 ∨ ((cutS l).1 = true ∧ PD.val (cutS l).2 = 9223372036854775808)) := by
  have hl : l ≠ [] := by rintro rfl; cases h
  rw [int_eq l hl] at h
  cases hp : Lib.parseUintB 64 (cutS l).2 with
  | «syntax» => rw [hp] at h; cases h
  | range => rw [hp] at h; cases h
  | ok u =>
    obtain ⟨h1, h2, _, rfl⟩ := uB_inv 64 _ u hp
    rw [hp] at h
    simp only [] at h
    split at h
    · cases h
    · rename_i g1
      split at h
      · cases h
      · rename_i g2
        injection h with h
        refine ⟨hl, h1, h2, h.symm, ?_⟩
        cases hb : (cutS l).1 with
        | false =>
          left
          have : ¬ 9223372036854775808 ≤ PD.val (cutS l).2 := fun x => g1 ⟨hb, x⟩
          omega
        | true =>
          have : ¬ 9223372036854775808 < PD.val (cutS l).2 := fun x => g2 ⟨hb, x⟩
          by_cases h9 : PD.val (cutS l).2 ≤ 9223372036854775807
          · exact .inl h9
          · exact .inr ⟨rfl, by omega⟩
end Go.Proofs.YtgcgccglamfncaaDoor.Dec
