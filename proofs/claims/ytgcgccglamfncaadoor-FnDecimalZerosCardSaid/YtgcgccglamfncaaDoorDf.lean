/-
  WALKS for FnDecimalParses: the package's ParseDecimal (8), behind the whole part.
-/
import Derived.Test.YtgcgccglamfncaaDoorDe
namespace Go.Proofs.YtgcgccglamfncaaDoor.Dec
open Go.RowKit

set_option maxHeartbeats 2000000 in
theorem dec8_nouint (s : ByteArray) (d : Nat) (v : Int) (w : World) (hs : s.size ≤ 1000000) (E : Env w) (hdd : dot (bs s) = d) (hd : d < s.size) (hp : Lib.parseIntB 64 ((bs s).take d) = .ok v) (hu : ∀ u, Lib.parseUintB 16 ((bs s).drop (d + 1)) ≠ .ok u) :
    Calls Tryd.prog 8 #[.string s] w fun e w' => DecEnd none e ∧ Below w.heap.size w w' := by
  have I := idx11 s (w.alloc (.cells #[.int .i64 0] 29)) hs
  rw [hdd, if_pos hd] at I
  have hB0 := (Below.refl w.heap.size w).alloc (Nat.le_refl _) (.cells #[.int .i64 0] 29)
  have E1 := E.below hB0
  have P := pint12_ok (s.extract 0 d) v (w.alloc (.cells #[.int .i64 0] 29)) (by simp; omega) (by rw [bs_take]; exact hp)
  have U := fun w1 (E2 : Env w1) => puint13_no (s.extract (d + 1) s.size) w1 (by simp; omega) E2 (by rw [bs_extract]; exact hu)
  have HU := Lib.hid U
  have hlt : (d : Int) ≤ (s.size : Int) := by omega
  have hlt1 : (d : Int) + 1 ≤ (s.size : Int) := by omega
  have hp2 : ((d : Int) + 1).toNat = d + 1 := by omega
  have HN := Lib.hid (heap_alloc_new w (.cells #[.int .i64 0] 29))
  have HB0 := Lib.hid hB0
  have HE1 := Lib.hid E1
  have hd0 : ¬ (d : Int) < 0 := by omega
  have hwr : IntKind.i64.wrap ((d : Int) + 1) = (d : Int) + 1 := by rw [IntKind.wrap_i64]; omega
  have h7 : 0 < w.heap.size := Nat.lt_of_lt_of_le (by omega) E.2.2.2.2
  clear hdd hp E hB0 E1 hu U
  go_enter Tryd.func8, Tryd.ntmps8
  go_wp2_with fail
  refine I.mono ?_
  rintro e w' ⟨rfl, rfl⟩
  simp only []
  go_wp2_with fail
  refine P.mono ?_
  rintro e w1 ⟨rfl, hb⟩
  have HN1 := Lib.hid (own_fact HN.out hb)
  have HB1 := Lib.hid (HB0.out.trans (hb.mono HB0.out.size))
  have HE2 := Lib.hid (HE1.out.below hb)
  clear hb
  simp only []
  go_wp2_with fail
  refine (HU.out _ HE2.out).mono ?_
  rintro e w2 ⟨⟨n, T1, x1, rfl⟩, hb⟩
  obtain ⟨c1, f1, cS⟩ := own_cell (own_fact HN1.out hb)
  obtain ⟨⟨T, x, g0⟩, _⟩ := HE2.out.below hb
  have g1 := far_cell (u := .int .i64 0) h7 g0
  have HZ := Lib.hid ((((HB1.out.trans (hb.mono HB1.out.size)).drew).setCell (p := ⟨w.heap.size, 0, none⟩) (Nat.le_refl _) (.int .i64 0)))
  clear hb
  simp only []
  go_wp2_with fail
  go_region
  all_goals
    go_wp2_with fail
    refine bodyPost_ret (v := .tuple #[.agg #[.int .i64 0], .iface T x]) (by simp [results, Tryd.results8, go_sem, cS]) rfl ?_
    exact ⟨⟨T, x, rfl⟩, HZ.out⟩

set_option maxHeartbeats 2000000 in
theorem dec8_long (s : ByteArray) (d u : Nat) (v : Int) (w : World) (hs : s.size ≤ 1000000) (E : Env w) (hdd : dot (bs s) = d) (hd : d < s.size) (hp : Lib.parseIntB 64 ((bs s).take d) = .ok v) (hu : Lib.parseUintB 16 ((bs s).drop (d + 1)) = .ok u) (hlong : 4 < s.size - (d + 1)) :
    Calls Tryd.prog 8 #[.string s] w fun e w' => DecEnd none e ∧ Below w.heap.size w w' := by
  have I := idx11 s (w.alloc (.cells #[.int .i64 0] 29)) hs
  rw [hdd, if_pos hd] at I
  have hB0 := (Below.refl w.heap.size w).alloc (Nat.le_refl _) (.cells #[.int .i64 0] 29)
  have E1 := E.below hB0
  have P := pint12_ok (s.extract 0 d) v (w.alloc (.cells #[.int .i64 0] 29)) (by simp; omega) (by rw [bs_take]; exact hp)
  have U := fun w1 => puint13_ok (s.extract (d + 1) s.size) u w1 (by simp; omega) (by rw [bs_extract]; exact hu)
  have HU := Lib.hid U
  obtain ⟨m, hm⟩ : ∃ m, (s.extract (d + 1) s.size).size = m := ⟨_, rfl⟩
  have hm4 : ¬ (m : Int) ≤ 4 := by simp at hm; omega
  have hm4' : (4 : Int) < (m : Int) := by omega
  have hlt : (d : Int) ≤ (s.size : Int) := by omega
  have hlt1 : (d : Int) + 1 ≤ (s.size : Int) := by omega
  have hp2 : ((d : Int) + 1).toNat = d + 1 := by omega
  have HN := Lib.hid (heap_alloc_new w (.cells #[.int .i64 0] 29))
  have HB0 := Lib.hid hB0
  have HE1 := Lib.hid E1
  have hd0 : ¬ (d : Int) < 0 := by omega
  have hwr : IntKind.i64.wrap ((d : Int) + 1) = (d : Int) + 1 := by rw [IntKind.wrap_i64]; omega
  have h7 : 0 < w.heap.size := Nat.lt_of_lt_of_le (by omega) E.2.2.2.2
  clear hdd hp E hB0 E1 hu U hlong hm4
  go_enter Tryd.func8, Tryd.ntmps8
  go_wp2_with fail
  refine I.mono ?_
  rintro e w' ⟨rfl, rfl⟩
  simp only []
  go_wp2_with fail
  refine P.mono ?_
  rintro e w1 ⟨rfl, hb⟩
  have HN1 := Lib.hid (own_fact HN.out hb)
  have HB1 := Lib.hid (HB0.out.trans (hb.mono HB0.out.size))
  have HE2 := Lib.hid (HE1.out.below hb)
  clear hb
  simp only []
  go_wp2_with fail
  refine (HU.out _).mono ?_
  rintro e w2 ⟨rfl, hb⟩
  obtain ⟨c1, f1, cS⟩ := own_cell (own_fact HN1.out hb)
  obtain ⟨⟨T, x, g0⟩, _⟩ := HE2.out.below hb
  have g1 := far_cell (u := .int .i64 0) h7 g0
  have HZ := Lib.hid ((((HB1.out.trans (hb.mono HB1.out.size)).drew).setCell (p := ⟨w.heap.size, 0, none⟩) (Nat.le_refl _) (.int .i64 0)))
  clear hb
  simp only []
  go_wp2_with fail
  go_region
  all_goals
    go_wp2_with fail
    refine bodyPost_ret (v := .tuple #[.agg #[.int .i64 0], .iface T x]) (by simp [results, Tryd.results8, go_sem, cS]) rfl ?_
    exact ⟨⟨T, x, rfl⟩, HZ.out⟩
end Go.Proofs.YtgcgccglamfncaaDoor.Dec
