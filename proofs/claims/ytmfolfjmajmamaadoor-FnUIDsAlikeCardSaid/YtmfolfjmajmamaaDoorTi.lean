/-
  FnUIDsAlike: the plain law on lists: what two sets have in common, and what both have together.
-/
import Derived.Test.YtmfolfjmajmamaaDoorTh
namespace Go.Proofs.YtmfolfjmajmamaaDoor.Al
open Go.Proofs.YtmfolfjmajmamaaDoor.Ss

theorem setN_fold (id : Nat → K) : ∀ n, setN id n = (idsL id n).foldl addK []
  | 0 => rfl
  | n + 1 => by rw [idsL_succ, List.foldl_append, ← setN_fold id n]; rfl

theorem addK_mem {h : List K} {x y : K} : y ∈ addK h x ↔ y ∈ h ∨ y = x := by
  unfold addK
  split
  · rename_i hx
    constructor
    · exact .inl
    · rintro (h1 | rfl)
      · exact h1
      · exact hx
  · simp
theorem addK_nodup {h : List K} {x : K} (hn : h.Nodup) : (addK h x).Nodup := by
  unfold addK
  split
  · exact hn
  · rename_i hx
    refine List.nodup_append.2 ⟨hn, by simp, ?_⟩
    intro a ha b hb e
    simp at hb
    subst hb
    subst e
    exact hx ha
theorem fold_mem {y : K} : ∀ (l h : List K), y ∈ l.foldl addK h ↔ y ∈ h ∨ y ∈ l
  | [], h => by simp
  | x :: l, h => by
    rw [List.foldl_cons, fold_mem l, addK_mem]
    simp [or_assoc]
theorem fold_nodup : ∀ (l h : List K), h.Nodup → (l.foldl addK h).Nodup
  | [], _, hn => hn
  | _ :: l, _, hn => fold_nodup l _ (addK_nodup hn)

/-- a list without doubles is no longer than what holds it -/
theorem nodup_le : ∀ (a b : List K), a.Nodup → (∀ x ∈ a, x ∈ b) → a.length ≤ b.length
  | [], _, _, _ => Nat.zero_le _
  | x :: a, b, hn, hs => by
    have hx : x ∈ b := hs x (by simp)
    obtain ⟨hxa, hna⟩ := List.nodup_cons.1 hn
    have := nodup_le a (b.erase x) hna (fun y hy => by
      have hne : y ≠ x := fun e => hxa (e ▸ hy)
      exact (List.mem_erase_of_ne hne).2 (hs y (by simp [hy])))
    rw [List.length_erase_of_mem hx] at this
    have hpos : 0 < b.length := List.length_pos_of_mem hx
    simp
    omega

variable {A B U : List K} (hA : A.Nodup) (hB : B.Nodup) (hU : U.Nodup) (hm : ∀ x, x ∈ U ↔ x ∈ A ∨ x ∈ B)

theorem alike_self (A : List K) : alikeL A A := ⟨rfl, fun _ h => h⟩
theorem alike_sub (hA : A.Nodup) (h : alikeL A B) : ∀ x ∈ B, x ∈ A := by
  intro x hx
  by_cases hxa : x ∈ A
  · exact hxa
  · exfalso
    have := nodup_le A (B.erase x) hA (fun y hy => by
      have hne : y ≠ x := fun e => hxa (e ▸ hy)
      exact (List.mem_erase_of_ne hne).2 (h.2 y hy))
    rw [List.length_erase_of_mem hx] at this
    have hpos : 0 < B.length := List.length_pos_of_mem hx
    have := h.1
    omega
theorem alike_symm (hA : A.Nodup) (h : alikeL A B) : alikeL B A := ⟨h.1.symm, alike_sub hA h⟩
theorem alike_comm (hA : A.Nodup) (hB : B.Nodup) : decide (alikeL B A) = decide (alikeL A B) := by
  rw [decide_eq_decide]
  exact ⟨alike_symm hB, alike_symm hA⟩
theorem meet_comm (A B : List K) : decide (meetL B A) = decide (meetL A B) := by
  rw [decide_eq_decide]
  exact ⟨fun ⟨x, a, b⟩ => ⟨x, b, a⟩, fun ⟨x, a, b⟩ => ⟨x, b, a⟩⟩
theorem meet_self (A : List K) : decide (meetL A A) = decide (0 < A.length) := by
  rw [decide_eq_decide]
  constructor
  · rintro ⟨x, a, _⟩
    exact List.length_pos_of_mem a
  · intro h
    obtain ⟨x, hx⟩ := List.exists_mem_of_length_pos h
    exact ⟨x, hx, hx⟩

include hU hm in
theorem both_le : U.length ≤ A.length + B.length := by
  rw [← List.length_append]
  exact nodup_le U (A ++ B) hU (fun x hx => List.mem_append.2 ((hm x).1 hx))
include hA hm in
theorem both_left : A.length ≤ U.length := nodup_le A U hA (fun x hx => (hm x).2 (.inl hx))
include hB hm in
theorem both_right : B.length ≤ U.length := nodup_le B U hB (fun x hx => (hm x).2 (.inr hx))
include hA hU hm in
theorem both_alike (h : alikeL A B) : U.length = A.length := by
  refine Nat.le_antisymm (nodup_le U A hU (fun x hx => ?_)) (both_left hA hm)
  rcases (hm x).1 hx with h1 | h1
  · exact h1
  · exact alike_sub hA h x h1
include hA hB hU hm in
theorem both_meet : decide (meetL A B) = decide (U.length < A.length + B.length) := by
  rw [decide_eq_decide]
  constructor
  · rintro ⟨x, a, b⟩
    have := nodup_le U (A ++ B.erase x) hU (fun y hy => by
      by_cases e : y = x
      · subst e
        exact List.mem_append.2 (.inl a)
      · rcases (hm y).1 hy with h1 | h1
        · exact List.mem_append.2 (.inl h1)
        · exact List.mem_append.2 (.inr ((List.mem_erase_of_ne e).2 h1)))
    rw [List.length_append, List.length_erase_of_mem b] at this
    have hpos : 0 < B.length := List.length_pos_of_mem b
    omega
  · intro h
    rcases Classical.em (meetL A B) with h1 | h1
    · exact h1
    · exfalso
      have hn : (A ++ B).Nodup := List.nodup_append.2 ⟨hA, hB, fun a ha b hb e => h1 ⟨a, ha, e ▸ hb⟩⟩
      have := nodup_le (A ++ B) U hn (fun x hx => (hm x).2 (List.mem_append.1 hx))
      rw [List.length_append] at this
      omega

theorem setN_pos (id : Nat → K) (n : Nat) : 0 < (setN id n).length ↔ 0 < n := by
  constructor
  · intro h
    rcases Nat.eq_zero_or_pos n with h0 | h0
    · subst h0
      simp [setN] at h
    · exact h0
  · intro h
    have : id 0 ∈ setN id n := by
      rw [setN_fold, fold_mem]
      right
      simp only [idsL, List.mem_map, List.mem_range]
      exact ⟨0, h, rfl⟩
    exact List.length_pos_of_mem this
theorem setN_nodup (id : Nat → K) (n : Nat) : (setN id n).Nodup := by
  rw [setN_fold]
  exact fold_nodup _ _ List.nodup_nil
theorem setN_length (id : Nat → K) (n : Nat) : (setN id n).length ≤ n := by
  have := nodup_le (setN id n) (idsL id n) (setN_nodup id n) (fun x hx => by
    rw [setN_fold, fold_mem] at hx
    simpa using hx)
  rwa [idsL_length] at this
theorem setN_join (n m : Nat) (f g : Nat → K) (x : K) : x ∈ setN (joinF n f g) (n + m) ↔ x ∈ setN f n ∨ x ∈ setN g m := by
  rw [setN_fold, setN_fold, setN_fold, fold_mem, fold_mem, fold_mem, ← joinF_list]
  simp
end Go.Proofs.YtmfolfjmajmamaaDoor.Al
