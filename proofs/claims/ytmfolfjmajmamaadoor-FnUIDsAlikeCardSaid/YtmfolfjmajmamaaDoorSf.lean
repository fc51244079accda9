/-
  WALKS for FnUIDStepsList: slices.Index (8) over identifiers.
-/
import Derived.Test.YtmfolfjmajmamaaDoorSe
import Derived.Laws.StructEq
import Derived.Deep.Draws
namespace Go.Proofs.YtmfolfjmajmamaaDoor.Ss
open Go.RowKit Go.Maps

theorem beq_str (a b : ByteArray) : (a.toList == b.toList) = decide (a = b) := by
  rw [ByteArray.toList_eq, ByteArray.toList_eq]
  obtain ⟨⟨x⟩⟩ := a
  obtain ⟨⟨y⟩⟩ := b
  by_cases h : x = y
  · subst h; simp
  · rw [beq_eq_false_iff_ne.2 h]
    exact (decide_eq_false (fun e => h (by injection e with e; injection e))).symm

theorem str_iff (a b : ByteArray) : a.toList = b.toList ↔ a = b := by
  refine ⟨fun h => ?_, fun h => by rw [h]⟩
  have := beq_str a b
  rw [beq_iff_eq.2 h] at this
  exact of_decide_eq_true this.symm

theorem eq29 (a b : K) (w : World) : (binOp .eql 29 (.agg #[.string a.t, .string a.i]) (.agg #[.string b.t, .string b.i])).run Tryd.prog w = .ok (.bool (decide (a = b))) w := by
  have hS : Tryd.prog.underlying 29 = some (.struct (Tryd.prog.fieldsOf 29)) := by kernel_rfl
  have hp : Tryd.prog.stoodInHeld 29 = false := by kernel_rfl
  rw [run_eql_struct, show (10000 : Nat) = 9999 + 1 from rfl, run_equalIn_agg w 9999 29 _ _ hS hp]
  simp only [Program.fieldsOf, Tryd.underlying29]
  go_simp
  obtain ⟨a1, a2⟩ := a
  obtain ⟨b1, b2⟩ := b
  have e1 := str_iff a1 b1
  have e2 := str_iff a2 b2
  by_cases h1 : a1 = b1 <;> by_cases h2 : a2 = b2 <;> simp [e1, e2, h1, h2]

/-- the identifiers that a row holds -/
def HeldAt (g m : Nat) (id : Nat → K) (w : World) : Prop := ∀ j, j < m → w.cell? ⟨g, j * 2, none⟩ = some (.string (id j).t) ∧ w.cell? ⟨g, j * 2 + 1, none⟩ = some (.string (id j).i)


set_option maxHeartbeats 2000000 in
set_option maxRecDepth 100000 in
theorem idx8 (g m c : Nat) (hm2 : m ≤ 200) (id : Nat → K) (x : K) (r : Nat) (w : World) (hg : g < w.heap.size) (hH : HeldAt g m id w) (hr : r ≤ m) (hne : ∀ j, j < r → id j ≠ x) (heq : r < m → id r = x) :
    Calls Tryd.prog 8 #[.slice (some ⟨g, 0, none⟩) m c, kv x] w fun e w' => e = .returned (.int .i64 (if r < m then (r : Int) else -1)) ∧ w.grownBy w' none := by
  obtain ⟨s, i⟩ := x
  simp only [kv]
  have HN := Lib.hid hne
  have HE := Lib.hid heq
  clear hne heq
  go_enter Tryd.func8, Tryd.ntmps8
  go_wp2_with fail
  go_loopw [8] (fun y wr => ∃ k q : Nat, k ≤ r ∧ y = .int .i64 k ∧ wr = (w.alloc (.cells #[.string s, .string i] 29)).drewN q) (fun y _ => m - (intOf y).toNat)
  case atStart => exact ⟨0, 0, Nat.zero_le _, rfl, rfl⟩
  case round =>
    obtain ⟨k, q, hk, rfl, rfl⟩ := hrel
    rcases Nat.lt_or_ge k m with hlt | hge
    · obtain ⟨c0, c1⟩ := hH k hlt
      have d0 : (w.alloc (.cells #[.string s, .string i] 29)).cell? ⟨g, k * 2, none⟩ = some (.string (id k).t) := by
        rw [← c0]; simp only [World.cell?]; rw [heap_alloc_old w _ hg]
      have d1 : (w.alloc (.cells #[.string s, .string i] 29)).cell? ⟨g, k * 2 + 1, none⟩ = some (.string (id k).i) := by
        rw [← c1]; simp only [World.cell?]; rw [heap_alloc_old w _ hg]
      have hlt' : (k : Int) < (m : Int) := by omega
      have EQ := fun w => eq29 ⟨s, i⟩ (id k) w
      simp only [] at EQ
      clear c0 c1
      rcases Nat.lt_or_ge k r with hkr | hkr
      · have hd : decide (K.mk s i = id k) = false := decide_eq_false (fun e => HN.out k hkr e.symm)
        rw [hd] at EQ
        have HKR := Lib.hid (And.intro hkr hlt)
        go_wp2_with fail
        go_region
        all_goals
          go_wp2_with fail
          go_roundw
          case rel => exact ⟨k + 1, q + 1, HKR.out.1, by go_num, rfl⟩
          case measure => have := HKR.out.2; have := HKR.out.1; simp [intOf]; omega
      · have hrk : k = r := by omega
        subst hrk
        have hd : decide (K.mk s i = id k) = true := decide_eq_true (HE.out hlt).symm
        rw [hd] at EQ
        go_wp2_with fail
        go_region
        all_goals
          go_wp2_with fail
          go_ret
          refine ⟨?_, ?_⟩
          · rfl
          · exact ⟨rfl, rfl, rfl, by simp, fun j hj _ => heap_alloc_old w _ hj⟩
    · have hkm : k = m := by omega
      have hrm : r = m := by omega
      subst hkm
      go_wp2_with fail
      go_ret
      refine ⟨?_, ?_⟩
      · rfl
      · exact ⟨rfl, rfl, rfl, by simp, fun j hj _ => heap_alloc_old w _ hj⟩

theorem idx8_none (a : Option Addr) (c : Nat) (x : K) (w : World) :
    Calls Tryd.prog 8 #[.slice a 0 c, kv x] w fun e w' => e = .returned (.int .i64 (-1)) ∧ w.grownBy w' none := by
  obtain ⟨s, i⟩ := x
  simp only [kv]
  go_enter Tryd.func8, Tryd.ntmps8
  go_wp2_with fail
  refine wp_loop_rounds 1 ?_
  rw [rounds_succ]
  go_wp2_with fail
  go_ret
  exact ⟨rfl, World.grownBy_alloc _ _ _⟩
end Go.Proofs.YtmfolfjmajmamaaDoor.Ss
