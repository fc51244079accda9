/-
  WALKS for FnDecimalParses: newDecimal (15).
-/
import Derived.Test.YtgcgccglamfncaaDoorDc
namespace Go.Proofs.YtgcgccglamfncaaDoor.Dec
open Go.RowKit

def newO (v t : Int) : Option Int :=
  if 922337203685477 < v ∨ (v = 922337203685477 ∧ 5807 < t) then none else if v < -922337203685477 ∨ (v = -922337203685477 ∧ t < -5808) then none else some (v * 10000 + t)

set_option maxHeartbeats 1000000 in
theorem new15_err1 (v t : Int) (w : World) (E : Env w) (h : 922337203685477 < v ∨ (v = 922337203685477 ∧ 5807 < t)) :
    Calls Tryd.prog 15 #[.int .i64 v, .int .i16 t] w fun e w' => DecEnd none e ∧ Below w.heap.size w w' := by
  obtain ⟨⟨T, x, c0⟩, _, _, _, h7⟩ := E
  have c0' : (w.alloc (.cells #[.int .i64 0] 29)).cell? ⟨0, 0, none⟩ = some (.iface T x) := by
    rw [← c0]; simp only [World.cell?]; rw [heap_alloc_old w _ (by omega)]
  have HZ := Lib.hid (((Below.refl w.heap.size w).alloc (Nat.le_refl _) (.cells #[.int .i64 0] 29)).drew)
  clear c0
  rcases h with h | ⟨rfl, h⟩
  · go_enter Tryd.func15, Tryd.ntmps15
    go_wp2_with fail
    go_region
    all_goals
      go_wp2_with fail
      refine bodyPost_ret (v := .tuple #[.agg #[.int .i64 0], .iface T x]) (by simp [results, Tryd.results15, go_sem]) rfl ?_
      exact ⟨⟨T, x, rfl⟩, HZ.out⟩
  · go_enter Tryd.func15, Tryd.ntmps15
    go_wp2_with fail
    go_region
    all_goals
      go_wp2_with fail
      refine bodyPost_ret (v := .tuple #[.agg #[.int .i64 0], .iface T x]) (by simp [results, Tryd.results15, go_sem]) rfl ?_
      exact ⟨⟨T, x, rfl⟩, HZ.out⟩

set_option maxHeartbeats 1000000 in
theorem new15_err2 (v t : Int) (w : World) (E : Env w) (h : v < -922337203685477 ∨ (v = -922337203685477 ∧ t < -5808)) :
    Calls Tryd.prog 15 #[.int .i64 v, .int .i16 t] w fun e w' => DecEnd none e ∧ Below w.heap.size w w' := by
  obtain ⟨⟨T, x, c0⟩, _, _, _, h7⟩ := E
  have c0' : (w.alloc (.cells #[.int .i64 0] 29)).cell? ⟨0, 0, none⟩ = some (.iface T x) := by
    rw [← c0]; simp only [World.cell?]; rw [heap_alloc_old w _ (by omega)]
  have HZ := Lib.hid (((Below.refl w.heap.size w).alloc (Nat.le_refl _) (.cells #[.int .i64 0] 29)).drew)
  clear c0
  rcases h with h | ⟨rfl, h⟩
  · have q1 : ¬ (922337203685477 : Int) < v := by omega
    have q2 : (v == 922337203685477) = false := beq_eq_false_iff_ne.2 (by omega)
    go_enter Tryd.func15, Tryd.ntmps15
    go_wp2_with fail
    go_region
    all_goals
      go_wp2_with fail
      refine bodyPost_ret (v := .tuple #[.agg #[.int .i64 0], .iface T x]) (by simp [results, Tryd.results15, go_sem]) rfl ?_
      exact ⟨⟨T, x, rfl⟩, HZ.out⟩
  · go_enter Tryd.func15, Tryd.ntmps15
    go_wp2_with fail
    go_region
    all_goals
      go_wp2_with fail
      refine bodyPost_ret (v := .tuple #[.agg #[.int .i64 0], .iface T x]) (by simp [results, Tryd.results15, go_sem]) rfl ?_
      exact ⟨⟨T, x, rfl⟩, HZ.out⟩

set_option maxHeartbeats 1000000 in
theorem new15_ok (v t : Int) (w : World) (ht : -10000 < t) (ht' : t < 10000) (h1 : ¬ (922337203685477 < v ∨ (v = 922337203685477 ∧ 5807 < t))) (h2 : ¬ (v < -922337203685477 ∨ (v = -922337203685477 ∧ t < -5808))) :
    Calls Tryd.prog 15 #[.int .i64 v, .int .i16 t] w fun e w' => DecEnd (some (v * 10000 + t)) e ∧ Below w.heap.size w w' := by
  have HZ := Lib.hid ((Below.refl w.heap.size w).alloc (Nat.le_refl _) (.cells #[.int .i64 (v * 10000 + t)] 29))
  have q1 : ¬ (922337203685477 : Int) < v := fun x => h1 (.inl x)
  have q2 : ¬ v < (-922337203685477 : Int) := fun x => h2 (.inl x)
  by_cases e1 : v = 922337203685477
  · have q3 : ¬ (5807 : Int) < t := fun x => h1 (.inr ⟨e1, x⟩)
    subst e1
    clear h1 h2
    go_enter Tryd.func15, Tryd.ntmps15
    go_wp2_with fail
    refine bodyPost_ret (v := .tuple #[.agg #[.int .i64 (922337203685477 * 10000 + t)], .nilIface]) (by simp [results, Tryd.results15, go_sem]) rfl ?_
    exact ⟨rfl, HZ.out⟩
  · by_cases e2 : v = -922337203685477
    · have q3 : ¬ t < (-5808 : Int) := fun x => h2 (.inr ⟨e2, x⟩)
      subst e2
      clear h1 h2
      go_enter Tryd.func15, Tryd.ntmps15
      go_wp2_with fail
      refine bodyPost_ret (v := .tuple #[.agg #[.int .i64 (-922337203685477 * 10000 + t)], .nilIface]) (by simp [results, Tryd.results15, go_sem]) rfl ?_
      exact ⟨rfl, HZ.out⟩
    · have q3 : (v == 922337203685477) = false := beq_eq_false_iff_ne.2 e1
      have q4 : (v == -922337203685477) = false := beq_eq_false_iff_ne.2 e2
      clear h1 h2
      go_enter Tryd.func15, Tryd.ntmps15
      go_wp2_with fail
      refine bodyPost_ret (v := .tuple #[.agg #[.int .i64 (v * 10000 + t)], .nilIface]) (by simp [results, Tryd.results15, go_sem]) rfl ?_
      exact ⟨rfl, HZ.out⟩

theorem new15 (v t : Int) (w : World) (E : Env w) (ht : -10000 < t) (ht' : t < 10000) :
    Calls Tryd.prog 15 #[.int .i64 v, .int .i16 t] w fun e w' => DecEnd (newO v t) e ∧ Below w.heap.size w w' := by
  unfold newO
  split
  · exact new15_err1 v t w E (by assumption)
  · split
    · exact new15_err2 v t w E (by assumption)
    · exact new15_ok v t w ht ht' (by assumption) (by assumption)
end Go.Proofs.YtgcgccglamfncaaDoor.Dec
