/-
  WALKS for FnUIDStepsList: the size checks: zzFits2 (23), zzFits13 (16), zzFits12 (5), uidWeight (17), fewSteps (6).
-/
import Derived.Test.YtmfolfjmajmamaaDoorSc
import Derived.IntWalk
namespace Go.Proofs.YtmfolfjmajmamaaDoor.Ss
open Go.RowKit Go.Maps

/-- the steps as they lie in memory -/
def StepsAt (g off n : Nat) (kd : Nat → Int) (id : Nat → K) (w : World) : Prop := ∀ k, k < n →
  w.cell? ⟨g, off + k * 3, none⟩ = some (.int .i64 (kd k)) ∧ w.cell? ⟨g, off + k * 3 + 1, none⟩ = some (.string (id k).t) ∧ w.cell? ⟨g, off + k * 3 + 2, none⟩ = some (.string (id k).i)

def IsBool (e : Ending) : Prop := ∃ b, e = .returned (.bool b)

theorem fits23 (x : K) (w : World) : Calls Tryd.prog 23 #[kv x] w fun e w' => IsBool e ∧ Below w.heap.size w w' := by
  obtain ⟨s, i⟩ := x
  simp only [kv]
  by_cases h1 : (2147483647 : Int) < (s.size : Int)
  · go_enter Tryd.func23, Tryd.ntmps23
    go_wp2_with fail
    go_ret
    exact ⟨⟨_, rfl⟩, (Below.refl _ _).alloc (Nat.le_refl _) _⟩
  · by_cases h2 : (2147483647 : Int) < (i.size : Int)
    · go_enter Tryd.func23, Tryd.ntmps23
      go_wp2_with fail
      go_ret
      exact ⟨⟨_, rfl⟩, (Below.refl _ _).alloc (Nat.le_refl _) _⟩
    · go_enter Tryd.func23, Tryd.ntmps23
      go_wp2_with fail
      go_ret
      exact ⟨⟨_, rfl⟩, (Below.refl _ _).alloc (Nat.le_refl _) _⟩

theorem fits16 (k : Int) (x : K) (w : World) : Calls Tryd.prog 16 #[.agg #[.int .i64 k, .string x.t, .string x.i]] w fun e w' => IsBool e ∧ Below w.heap.size w w' := by
  have F := fits23 x
  obtain ⟨s, i⟩ := x
  simp only [kv] at F
  go_enter Tryd.func16, Tryd.ntmps16
  go_wp2_with fail
  refine (F _).mono ?_
  rintro e w' ⟨⟨b, rfl⟩, hb⟩
  have HB := Lib.hid (((Below.refl w.heap.size w).alloc (Nat.le_refl _) (.cells #[.int .i64 k, .string s, .string i] 31)).trans (hb.mono (by simp)))
  clear hb
  simp only []
  cases b
  · go_wp2_with fail
    go_ret
    exact ⟨⟨_, rfl⟩, HB.out⟩
  · go_wp2_with fail
    go_ret
    exact ⟨⟨_, rfl⟩, HB.out⟩

set_option maxHeartbeats 1000000 in
theorem fits5 (g off n c : Nat) (kd : Nat → Int) (id : Nat → K) (w : World) (hg : g < w.heap.size) (hs : StepsAt g off n kd id w) :
    Calls Tryd.prog 5 #[.slice (some ⟨g, off, none⟩) n c] w fun e w' => IsBool e ∧ Below w.heap.size w w' := by
  have F := fits16
  by_cases h1 : (2147483647 : Int) < (n : Int)
  · go_enter Tryd.func5, Tryd.ntmps5
    go_wp2_with fail
    go_ret
    exact ⟨⟨_, rfl⟩, Below.refl _ _⟩
  go_enter Tryd.func5, Tryd.ntmps5
  go_wp2_with fail
  go_loopw [10] (fun i wr => ∃ k : Nat, k ≤ n ∧ i = .int .i64 k ∧ Below w.heap.size w wr) (fun i _ => n - (intOf i).toNat)
  case atStart => exact ⟨0, Nat.zero_le _, rfl, Below.refl _ _⟩
  case round =>
    obtain ⟨k, hk, rfl, hB⟩ := hrel
    rcases Nat.lt_or_ge k n with hlt | hge
    · obtain ⟨c0, c1, c2⟩ := hs k hlt
      have d0 := (hB.cell (p := ⟨g, off + k * 3, none⟩) hg).trans c0
      have d1 := (hB.cell (p := ⟨g, off + k * 3 + 1, none⟩) hg).trans c1
      have d2 := (hB.cell (p := ⟨g, off + k * 3 + 2, none⟩) hg).trans c2
      have hlt' : (k : Int) < (n : Int) := by omega
      have HB := Lib.hid hB
      clear hB c0 c1 c2
      go_wp2_with fail
      refine (F _ _ _).mono ?_
      rintro e w' ⟨⟨b, rfl⟩, hb⟩
      have HB2 := Lib.hid ((HB.out.alloc HB.out.size (.cells #[.int .i64 (kd k), .string (id k).t, .string (id k).i] 31)).trans (hb.mono (by have := HB.out.size; simp; omega)))
      clear hb
      simp only []
      cases b
      · go_wp2_with fail
        go_ret
        exact ⟨⟨_, rfl⟩, HB2.out⟩
      · go_wp2_with fail
        go_roundw
        case rel => exact ⟨k + 1, by omega, by go_num, HB2.out⟩
        case measure => simp [intOf]; omega
    · have : k = n := by omega
      subst this
      have HB := Lib.hid hB
      clear hB
      go_wp2_with fail
      go_ret
      exact ⟨⟨_, rfl⟩, HB.out⟩

theorem fits5_none (a : Option Addr) (c : Nat) (w : World) : Calls Tryd.prog 5 #[.slice a 0 c] w fun e w' => IsBool e ∧ Below w.heap.size w w' := by
  go_enter Tryd.func5, Tryd.ntmps5
  go_wp2_with fail
  refine wp_loop_rounds 1 ?_
  rw [rounds_succ]
  go_wp2_with fail
  go_ret
  exact ⟨⟨_, rfl⟩, Below.refl _ _⟩

def IsInt (e : Ending) : Prop := ∃ b, e = .returned (.int .i64 b)

theorem weight17 (x : K) (m : Int) (w : World) : Calls Tryd.prog 17 #[kv x, .int .i64 m] w fun e w' => IsInt e ∧ Below w.heap.size w w' := by
  obtain ⟨s, i⟩ := x
  simp only [kv]
  by_cases h1 : m < (s.size : Int)
  · go_enter Tryd.func17, Tryd.ntmps17
    go_wp2_with fail
    go_ret
    exact ⟨⟨_, rfl⟩, (Below.refl _ _).alloc (Nat.le_refl _) _⟩
  · by_cases h2 : m < (i.size : Int)
    · go_enter Tryd.func17, Tryd.ntmps17
      go_wp2_with fail
      go_ret
      exact ⟨⟨_, rfl⟩, (Below.refl _ _).alloc (Nat.le_refl _) _⟩
    · go_enter Tryd.func17, Tryd.ntmps17
      go_wp2_with fail
      go_ret
      exact ⟨⟨_, rfl⟩, (Below.refl _ _).alloc (Nat.le_refl _) _⟩

/-- what fewSteps says: a bool; true only of 200 steps or fewer -/
def IsFew (n : Nat) (e : Ending) : Prop := ∃ b, e = .returned (.bool b) ∧ (b = true → n ≤ 200)

set_option maxHeartbeats 1000000 in
theorem few6 (g off n c : Nat) (kd : Nat → Int) (id : Nat → K) (w : World) (hg : g < w.heap.size) (hs : StepsAt g off n kd id w) :
    Calls Tryd.prog 6 #[.slice (some ⟨g, off, none⟩) n c] w fun e w' => IsFew n e ∧ Below w.heap.size w w' := by
  have F := weight17
  simp only [kv] at F
  go_enter Tryd.func6, Tryd.ntmps6
  go_wp2_with fail
  go_loopw [3, 4] (fun l i wr => ∃ k : Nat, ∃ m : Int, k ≤ n ∧ k ≤ 201 ∧ l = .int .i64 m ∧ i = .int .i64 k ∧ Below w.heap.size w wr) (fun _ i _ => 201 - (intOf i).toNat)
  case atStart => exact ⟨0, 3000, Nat.zero_le _, Nat.zero_le _, rfl, rfl, Below.refl _ _⟩
  case round =>
    obtain ⟨k, m, hk, hk2, rfl, rfl, hB⟩ := hrel
    rcases Nat.lt_or_ge k n with hlt | hge
    · rcases Nat.lt_or_ge 200 k with h200 | h200
      · -- more than 200
        have hlt' : (k : Int) < (n : Int) := by omega
        have h200' : ¬ (k : Int) ≤ 200 := by omega
        have h200n : ¬ (n : Int) ≤ 200 := by omega
        have HB := Lib.hid hB
        clear hB
        go_wp2_with fail
        go_ret
        exact ⟨⟨_, rfl, fun h => by simp at h⟩, HB.out⟩
      · by_cases hm : (0 : Int) ≤ m
        · obtain ⟨c0, c1, c2⟩ := hs k hlt
          have d0 := (hB.cell (p := ⟨g, off + k * 3, none⟩) hg).trans c0
          have d1 := (hB.cell (p := ⟨g, off + k * 3 + 1, none⟩) hg).trans c1
          have d2 := (hB.cell (p := ⟨g, off + k * 3 + 2, none⟩) hg).trans c2
          have hlt' : (k : Int) < (n : Int) := by omega
          have h200' : (k : Int) ≤ 200 := by omega
          have HB := Lib.hid hB
          clear hB c0 c1 c2
          go_wp2_with fail
          refine (F (id k) _ _).mono ?_
          rintro e w' ⟨⟨b, rfl⟩, hb⟩
          have HB2 := Lib.hid (HB.out.trans (hb.mono HB.out.size))
          clear hb
          simp only []
          go_wp2_with fail
          go_roundw
          case rel => exact ⟨k + 1, b, by omega, by omega, rfl, by go_num, HB2.out⟩
          case measure => simp [intOf]; omega
        · have hlt' : (k : Int) < (n : Int) := by omega
          have h200' : (k : Int) ≤ 200 := by omega
          have HB := Lib.hid hB
          clear hB
          by_cases hn2 : (n : Int) ≤ 200
          · go_wp2_with fail
            go_ret
            exact ⟨⟨_, rfl, fun h => by omega⟩, HB.out⟩
          · go_wp2_with fail
            go_ret
            exact ⟨⟨_, rfl, fun h => by simp at h⟩, HB.out⟩
    · have : k = n := by omega
      subst this
      have HB := Lib.hid hB
      clear hB
      by_cases hn2 : (k : Int) ≤ 200
      · by_cases hm : (0 : Int) ≤ m
        · go_wp2_with fail
          go_ret
          exact ⟨⟨_, rfl, fun h => by omega⟩, HB.out⟩
        · go_wp2_with fail
          go_ret
          exact ⟨⟨_, rfl, fun h => by omega⟩, HB.out⟩
      · go_wp2_with fail
        go_ret
        exact ⟨⟨_, rfl, fun h => by simp at h⟩, HB.out⟩

theorem few6_none (a : Option Addr) (c : Nat) (w : World) : Calls Tryd.prog 6 #[.slice a 0 c] w fun e w' => IsFew 0 e ∧ Below w.heap.size w w' := by
  go_enter Tryd.func6, Tryd.ntmps6
  go_wp2_with fail
  refine wp_loop_rounds 1 ?_
  rw [rounds_succ]
  go_wp2_with fail
  go_ret
  exact ⟨⟨_, rfl, fun _ => by omega⟩, Below.refl _ _⟩
end Go.Proofs.YtmfolfjmajmamaaDoor.Ss
