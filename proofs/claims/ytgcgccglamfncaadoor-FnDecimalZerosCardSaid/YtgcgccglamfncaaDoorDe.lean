/-
  WALKS for FnDecimalParses: the package's ParseDecimal (8).
-/
import Derived.Test.YtgcgccglamfncaaDoorDd
import Derived.IntWalk
namespace Go.Proofs.YtgcgccglamfncaaDoor.Dec
open Go.RowKit

theorem own_fact {w w' : World} {n : Nat} (h : w.heap[n]? = some (.cells #[.int .i64 0] 29 (0, 0))) (hb : Below w.heap.size w w') : w'.heap[n]? = some (.cells #[.int .i64 0] 29 (0, 0)) := by
  rw [hb.block n (Array.getElem?_eq_some_iff.1 h).1, h]
theorem own_cell {w : World} {n : Nat} (h : w.heap[n]? = some (.cells #[.int .i64 0] 29 (0, 0))) : w.cell? ⟨n, 0, none⟩ = some (.int .i64 0) ∧ w.frozen? ⟨n, 0, none⟩ = false ∧ ∀ v, (w.setCell ⟨n, 0, none⟩ v).cell? ⟨n, 0, none⟩ = some v := by
  refine ⟨by simp [World.cell?, h], by simp [World.frozen?, h], fun v => ?_⟩
  simp [World.cell?, World.setCell, Array.getElem?_modify, h]

theorem far_cell {w : World} {n : Nat} {v u : Value} (hn : 0 < n) (h : w.cell? ⟨0, 0, none⟩ = some v) : (w.setCell ⟨n, 0, none⟩ u).cell? ⟨0, 0, none⟩ = some v := by
  rw [← h]; simp only [World.cell?]; rw [Below.heap_setCell _ _ _ _ (by show 0 ≠ n; omega)]

set_option maxHeartbeats 1000000 in
theorem dec8_nodot (s : ByteArray) (w : World) (hs : s.size ≤ 1000000) (E : Env w) (hd : ¬ dot (bs s) < s.size) :
    Calls Tryd.prog 8 #[.string s] w fun e w' => DecEnd none e ∧ Below w.heap.size w w' := by
  have I := idx11 s (w.alloc (.cells #[.int .i64 0] 29)) hs
  rw [if_neg hd] at I
  obtain ⟨⟨T, x, c0⟩, _, _, _, h7⟩ := E
  have c0' : (w.alloc (.cells #[.int .i64 0] 29)).cell? ⟨0, 0, none⟩ = some (.iface T x) := by
    rw [← c0]; simp only [World.cell?]; rw [heap_alloc_old w _ (by omega)]
  have HZ := Lib.hid (((Below.refl w.heap.size w).alloc (Nat.le_refl _) (.cells #[.int .i64 0] 29)).drew)
  clear c0 hd
  go_enter Tryd.func8, Tryd.ntmps8
  go_wp2_with fail
  refine I.mono ?_
  rintro e w' ⟨rfl, rfl⟩
  simp only []
  go_wp2_with fail
  go_region
  all_goals
    go_wp2_with fail
    refine bodyPost_ret (v := .tuple #[.agg #[.int .i64 0], .iface T x]) (by simp [results, Tryd.results8, go_sem]) rfl ?_
    exact ⟨⟨T, x, rfl⟩, HZ.out⟩

set_option maxHeartbeats 1000000 in
theorem dec8_noint (s : ByteArray) (d : Nat) (w : World) (hs : s.size ≤ 1000000) (E : Env w) (hdd : dot (bs s) = d) (hd : d < s.size) (hp : ∀ v, Lib.parseIntB 64 ((bs s).take d) ≠ .ok v) :
    Calls Tryd.prog 8 #[.string s] w fun e w' => DecEnd none e ∧ Below w.heap.size w w' := by
  have I := idx11 s (w.alloc (.cells #[.int .i64 0] 29)) hs
  rw [hdd, if_pos hd] at I
  have hB0 := (Below.refl w.heap.size w).alloc (Nat.le_refl _) (.cells #[.int .i64 0] 29)
  have E1 := E.below hB0
  have P := pint12_no (s.extract 0 d) (w.alloc (.cells #[.int .i64 0] 29)) (by simp; omega) E1 (by rw [bs_take]; exact hp)
  have hlt : (d : Int) ≤ (s.size : Int) := by omega
  have HN := Lib.hid (heap_alloc_new w (.cells #[.int .i64 0] 29))
  have HB0 := Lib.hid hB0
  have HE1 := Lib.hid E1
  have hd0 : ¬ (d : Int) < 0 := by omega
  have h7 : 0 < w.heap.size := Nat.lt_of_lt_of_le (by omega) E.2.2.2.2
  clear hdd hp E hB0 E1
  go_enter Tryd.func8, Tryd.ntmps8
  go_wp2_with fail
  refine I.mono ?_
  rintro e w' ⟨rfl, rfl⟩
  simp only []
  go_wp2_with fail
  refine P.mono ?_
  rintro e w1 ⟨⟨n, T1, x1, rfl⟩, hb⟩
  obtain ⟨c1, f1, cS⟩ := own_cell (own_fact HN.out hb)
  obtain ⟨⟨T, x, g0⟩, _⟩ := HE1.out.below hb
  have g1 := far_cell (u := .int .i64 0) h7 g0
  have HZ := Lib.hid ((((HB0.out.trans (hb.mono HB0.out.size)).drew).setCell (p := ⟨w.heap.size, 0, none⟩) (Nat.le_refl _) (.int .i64 0)))
  clear hb
  simp only []
  go_wp2_with fail
  go_region
  all_goals
    go_wp2_with fail
    refine bodyPost_ret (v := .tuple #[.agg #[.int .i64 0], .iface T x]) (by simp [results, Tryd.results8, go_sem, cS]) rfl ?_
    exact ⟨⟨T, x, rfl⟩, HZ.out⟩
end Go.Proofs.YtgcgccglamfncaaDoor.Dec
