/-
  WALKS for FnUIDsAlike: the methods of the sets: Len (26), Contains (54), Equal (31), Intersects (32).
-/
import Derived.Test.YtmfolfjmajmamaaDoorTc
import Derived.Maps.RangeWalk
import Derived.BigFrame
namespace Go.Proofs.YtmfolfjmajmamaaDoor.Al
open Go.RowKit Go.Maps Go.Proofs.YtmfolfjmajmamaaDoor.Ss

theorem inv43 {d : Nat} {a : Value} {ls : List Lit} (h : Tryd.prog.keyLits (d + 1) 43 [a] = some ls) : ∃ s, a = .string s ∧ s.size ≤ maxLen := by
  unfold Program.keyLits at h
  rw [Tryd.underlying43] at h
  cases a <;> simp at h
  exact ⟨_, rfl, h.1⟩
theorem inv44 {d : Nat} {a : Value} {ls : List Lit} (h : Tryd.prog.keyLits (d + 1) 44 [a] = some ls) : ∃ s, a = .string s ∧ s.size ≤ maxLen := by
  unfold Program.keyLits at h
  rw [Tryd.underlying44] at h
  cases a <;> simp at h
  exact ⟨_, rfl, h.1⟩
theorem inv46 {d : Nat} {a b : Value} {ls : List Lit} (h : Tryd.prog.keyLits (d + 2) 46 [a, b] = some ls) : ∃ s i, a = .string s ∧ b = .string i ∧ s.size ≤ maxLen ∧ i.size ≤ maxLen := by
  have h43 : Tryd.prog.cellsOf 43 = 1 := by kernel_rfl
  have h44 : Tryd.prog.cellsOf 44 = 1 := by kernel_rfl
  unfold Program.keyLits at h
  rw [Tryd.underlying46] at h
  simp [cells46, h43, h44] at h
  cases e1 : Tryd.prog.keyLits (d + 1) 43 [a] with
  | none => simp [e1] at h
  | some l1 =>
    cases e2 : Tryd.prog.keyLits (d + 1) 44 [b] with
    | none => simp [e1, e2] at h
    | some l2 =>
      obtain ⟨s, h1, h2⟩ := inv43 e1
      obtain ⟨i, h3, h4⟩ := inv44 e2
      exact ⟨s, i, h1, h3, h2, h4⟩

theorem key_inv {key : Value} {l : Lit} (h : keyOf Tryd.prog 46 key = some l) : ∃ x, key = kv x ∧ small x := by
  unfold keyOf at h
  rw [Tryd.underlying46] at h
  simp only [kt46, Bool.true_and, size_types] at h
  split at h
  · rename_i hf
    cases key <;> simp [Value.formed, Tryd.underlying46, cells46] at hf
    rename_i cs
    obtain ⟨cs⟩ := cs
    match cs, hf with
    | [a, b], _ =>
      cases e1 : Tryd.prog.keyLits (79 + 2) 46 [a, b] with
      | none =>
        have e2 : Tryd.prog.keyLits (80 + 1) 46 (Value.agg #[a, b]).cells.toList = none := e1
        rw [e2] at h
        cases h
      | some ls =>
        obtain ⟨s, i, rfl, rfl, h1, h2⟩ := inv46 e1
        exact ⟨⟨s, i⟩, rfl, h1, h2⟩
  · cases h

theorem len26 (m n : Nat) (D : DataW Unit) (w : World) (hown : w.ownsMap Tryd.prog 46 (unitElem (H := Unit)) m n D) :
    Calls Tryd.prog 26 #[.agg #[.map (some m)]] w fun e w' => e = .returned (.int .i64 (Maps.size D)) ∧ w.grownBy w' none := by
  have L := len22 m n D (w.alloc (.cells #[.map (some m)] 50)) (hown.alloc _)
  clear hown
  go_enter Tryd.func26, Tryd.ntmps26
  go_wp2_with fail
  refine L.mono ?_
  rintro e w1 ⟨rfl, g⟩
  have HG := Lib.hid (grown_trans (World.grownBy_alloc w (.cells #[.map (some m)] 50) none) g)
  clear g
  simp only []
  go_wp2_with fail
  go_ret
  exact ⟨rfl, HG.out⟩

theorem has54 (x : K) (hx : small x) (m n : Nat) (D : DataW Unit) (w : World) (hown : w.ownsMap Tryd.prog 46 (unitElem (H := Unit)) m n D) :
    Calls Tryd.prog 54 #[.agg #[.map (some m)], kv x] w fun e w' => e = .returned (.bool (Maps.has D (kl x))) ∧ w.grownBy w' none := by
  have L := has21 x hx m n D ((w.alloc (.cells #[.map (some m)] 50)).alloc (.cells #[.string x.t, .string x.i] 46)) ((hown.alloc _).alloc _)
  obtain ⟨s, i⟩ := x
  simp only [kv] at L ⊢
  clear hown
  go_enter Tryd.func54, Tryd.ntmps54
  go_wp2_with fail
  refine L.mono ?_
  rintro e w1 ⟨rfl, g⟩
  have HG := Lib.hid (grown_trans (grown2 w (.cells #[.map (some m)] 50) (.cells #[.string s, .string i] 46)) g)
  clear g
  simp only []
  go_wp2_with fail
  go_ret
  exact ⟨rfl, HG.out⟩
end Go.Proofs.YtmfolfjmajmamaaDoor.Al
