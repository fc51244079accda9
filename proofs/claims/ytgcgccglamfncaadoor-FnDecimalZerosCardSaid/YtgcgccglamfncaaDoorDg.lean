/-
  WALKS for FnDecimalParses: the package's ParseDecimal (8), at both numbers. Printed by mkDg.py.
-/
import Derived.Test.YtgcgccglamfncaaDoorDf
namespace Go.Proofs.YtgcgccglamfncaaDoor.Dec
open Go.RowKit

set_option maxHeartbeats 2000000 in
theorem dec8_pos_ok (s : ByteArray) (d u k : Nat) (v f : Int) (w : World) (hs : s.size ≤ 1000000) (E : Env w) (hdd : dot (bs s) = d) (hd : d < s.size) (hp : Lib.parseIntB 64 ((bs s).take d) = .ok v) (hu : Lib.parseUintB 16 ((bs s).drop (d + 1)) = .ok u) (hk : s.size - (d + 1) + k = 4)
    (hf : (u : Int) * (pn k : Nat) = f) (hf0 : 0 ≤ f) (hf1 : f < 10000) (hu1 : (u : Int) < 10000) (h0 : 0 < s.size) (hsgn : s[0] ≠ 45) (n : Int) (hN : newO v (f) = Option.some n) :
    Calls Tryd.prog 8 #[.string s] w fun e w' => DecEnd (Option.some n) e ∧ Below w.heap.size w w' := by
  have I := idx11 s (w.alloc (.cells #[.int .i64 0] 29)) hs
  rw [hdd, if_pos hd] at I
  have hB0 := (Below.refl w.heap.size w).alloc (Nat.le_refl _) (.cells #[.int .i64 0] 29)
  have E1 := E.below hB0
  have P := pint12_ok (s.extract 0 d) v (w.alloc (.cells #[.int .i64 0] 29)) (by simp; omega) (by rw [bs_take]; exact hp)
  have U := fun w1 => puint13_ok (s.extract (d + 1) s.size) u w1 (by simp; omega) (by rw [bs_extract]; exact hu)
  have HU := Lib.hid U
  have HP := Lib.hid (fun w1 (T : Tabs w1) => pow14 k (by omega) w1 T)
  have NW := fun w1 (E2 : Env w1) => new15 v (f) w1 E2 (by omega) (by omega)
  rw [hN] at NW
  have HNW := Lib.hid NW
  have CV := fun w1 => cv k (by omega) w1
  obtain ⟨m, hm⟩ : ∃ m, (s.extract (d + 1) s.size).size = m := ⟨_, rfl⟩
  have hm4 : (m : Int) ≤ 4 := by simp at hm; omega
  have hm4' : ¬ (4 : Int) < (m : Int) := by omega
  have hmk : (4 : Int) - (m : Int) = (k : Int) := by simp at hm; omega
  have hlt : (d : Int) ≤ (s.size : Int) := by omega
  have hlt1 : (d : Int) + 1 ≤ (s.size : Int) := by omega
  have hp2 : ((d : Int) + 1).toNat = d + 1 := by omega
  have HN := Lib.hid (heap_alloc_new w (.cells #[.int .i64 0] 29))
  have HB0 := Lib.hid hB0
  have HE1 := Lib.hid E1
  have hd0 : ¬ (d : Int) < 0 := by omega
  have hwr : IntKind.i64.wrap ((d : Int) + 1) = (d : Int) + 1 := by rw [IntKind.wrap_i64]; omega
  have hw1 : IntKind.i16.wrap (u : Int) = u := IntWalk.i16_in _ ⟨by omega, by omega⟩
  have hw2 : IntKind.i16.wrap f = f := IntWalk.i16_in _ ⟨by omega, by omega⟩
  have hw3 : IntKind.i16.wrap (-f) = -f := IntWalk.i16_in _ ⟨by omega, by omega⟩
  have h7 : 0 < w.heap.size := Nat.lt_of_lt_of_le (by omega) E.2.2.2.2
  have hsb : ((s[0].toNat : Int) == 45) = false := by
    rw [beq_eq_false_iff_ne]; intro e; apply hsgn; apply UInt8.toNat_inj.1; have : (45 : UInt8).toNat = 45 := rfl; omega
  have hs0 : (0 : Int) < (s.size : Int) := by omega
  obtain ⟨P10, hP10⟩ : ∃ P10 : Nat, pn k = P10 := ⟨_, rfl⟩
  rw [hP10] at hf CV
  obtain ⟨PW, hPW⟩ : ∃ PW : Nat, pw k = PW := ⟨_, rfl⟩
  rw [hPW] at HP CV
  clear hdd hp E hB0 E1 hu U hk hN NW hsgn hP10 hPW hf0 hf1 hu1
  go_enter Tryd.func8, Tryd.ntmps8
  go_wp2_with fail
  refine I.mono ?_
  rintro e w' ⟨rfl, rfl⟩
  simp only []
  go_wp2_with fail
  refine P.mono ?_
  rintro e w1 ⟨rfl, hb⟩
  have HN1 := Lib.hid (own_fact HN.out hb)
  have HB1 := Lib.hid (HB0.out.trans (hb.mono HB0.out.size))
  have HE2 := Lib.hid (HE1.out.below hb)
  clear hb
  simp only []
  go_wp2_with fail
  refine (HU.out _).mono ?_
  rintro e w2 ⟨rfl, hb⟩
  have HN2 := Lib.hid (own_fact HN1.out hb)
  have HB2 := Lib.hid (HB1.out.trans (hb.mono HB1.out.size))
  have HE3 := Lib.hid (HE2.out.below hb)
  clear hb
  simp only []
  go_wp2_with fail
  refine (HP.out _ HE3.out.2.2.2.1).mono ?_
  rintro e w3 ⟨rfl, rfl⟩
  simp only []
  go_wp2_with fail
  refine (HNW.out w2.drew HE3.out).mono ?_
  rintro e w4 ⟨hde, hb⟩
  obtain rfl : e = .returned (.tuple #[.agg #[.int .i64 n], .nilIface]) := hde
  obtain ⟨c1, f1, cS⟩ := own_cell (own_fact (w := w2.drew) HN2.out hb)
  have HZ := Lib.hid ((HB2.out.drew.trans (hb.mono HB2.out.size)).setCell (p := ⟨w.heap.size, 0, none⟩) (Nat.le_refl _) (.int .i64 n))
  clear hb
  simp only []
  go_wp2_with fail
  refine bodyPost_ret (v := .tuple #[.agg #[.int .i64 n], .nilIface]) (by simp [results, Tryd.results8, go_sem, cS]) rfl ?_
  exact ⟨rfl, HZ.out⟩

set_option maxHeartbeats 2000000 in
theorem dec8_pos_no (s : ByteArray) (d u k : Nat) (v f : Int) (w : World) (hs : s.size ≤ 1000000) (E : Env w) (hdd : dot (bs s) = d) (hd : d < s.size) (hp : Lib.parseIntB 64 ((bs s).take d) = .ok v) (hu : Lib.parseUintB 16 ((bs s).drop (d + 1)) = .ok u) (hk : s.size - (d + 1) + k = 4)
    (hf : (u : Int) * (pn k : Nat) = f) (hf0 : 0 ≤ f) (hf1 : f < 10000) (hu1 : (u : Int) < 10000) (h0 : 0 < s.size) (hsgn : s[0] ≠ 45) (hN : newO v (f) = none) :
    Calls Tryd.prog 8 #[.string s] w fun e w' => DecEnd (none) e ∧ Below w.heap.size w w' := by
  have I := idx11 s (w.alloc (.cells #[.int .i64 0] 29)) hs
  rw [hdd, if_pos hd] at I
  have hB0 := (Below.refl w.heap.size w).alloc (Nat.le_refl _) (.cells #[.int .i64 0] 29)
  have E1 := E.below hB0
  have P := pint12_ok (s.extract 0 d) v (w.alloc (.cells #[.int .i64 0] 29)) (by simp; omega) (by rw [bs_take]; exact hp)
  have U := fun w1 => puint13_ok (s.extract (d + 1) s.size) u w1 (by simp; omega) (by rw [bs_extract]; exact hu)
  have HU := Lib.hid U
  have HP := Lib.hid (fun w1 (T : Tabs w1) => pow14 k (by omega) w1 T)
  have NW := fun w1 (E2 : Env w1) => new15 v (f) w1 E2 (by omega) (by omega)
  rw [hN] at NW
  have HNW := Lib.hid NW
  have CV := fun w1 => cv k (by omega) w1
  obtain ⟨m, hm⟩ : ∃ m, (s.extract (d + 1) s.size).size = m := ⟨_, rfl⟩
  have hm4 : (m : Int) ≤ 4 := by simp at hm; omega
  have hm4' : ¬ (4 : Int) < (m : Int) := by omega
  have hmk : (4 : Int) - (m : Int) = (k : Int) := by simp at hm; omega
  have hlt : (d : Int) ≤ (s.size : Int) := by omega
  have hlt1 : (d : Int) + 1 ≤ (s.size : Int) := by omega
  have hp2 : ((d : Int) + 1).toNat = d + 1 := by omega
  have HN := Lib.hid (heap_alloc_new w (.cells #[.int .i64 0] 29))
  have HB0 := Lib.hid hB0
  have HE1 := Lib.hid E1
  have hd0 : ¬ (d : Int) < 0 := by omega
  have hwr : IntKind.i64.wrap ((d : Int) + 1) = (d : Int) + 1 := by rw [IntKind.wrap_i64]; omega
  have hw1 : IntKind.i16.wrap (u : Int) = u := IntWalk.i16_in _ ⟨by omega, by omega⟩
  have hw2 : IntKind.i16.wrap f = f := IntWalk.i16_in _ ⟨by omega, by omega⟩
  have hw3 : IntKind.i16.wrap (-f) = -f := IntWalk.i16_in _ ⟨by omega, by omega⟩
  have h7 : 0 < w.heap.size := Nat.lt_of_lt_of_le (by omega) E.2.2.2.2
  have hsb : ((s[0].toNat : Int) == 45) = false := by
    rw [beq_eq_false_iff_ne]; intro e; apply hsgn; apply UInt8.toNat_inj.1; have : (45 : UInt8).toNat = 45 := rfl; omega
  have hs0 : (0 : Int) < (s.size : Int) := by omega
  obtain ⟨P10, hP10⟩ : ∃ P10 : Nat, pn k = P10 := ⟨_, rfl⟩
  rw [hP10] at hf CV
  obtain ⟨PW, hPW⟩ : ∃ PW : Nat, pw k = PW := ⟨_, rfl⟩
  rw [hPW] at HP CV
  clear hdd hp E hB0 E1 hu U hk hN NW hsgn hP10 hPW hf0 hf1 hu1
  go_enter Tryd.func8, Tryd.ntmps8
  go_wp2_with fail
  refine I.mono ?_
  rintro e w' ⟨rfl, rfl⟩
  simp only []
  go_wp2_with fail
  refine P.mono ?_
  rintro e w1 ⟨rfl, hb⟩
  have HN1 := Lib.hid (own_fact HN.out hb)
  have HB1 := Lib.hid (HB0.out.trans (hb.mono HB0.out.size))
  have HE2 := Lib.hid (HE1.out.below hb)
  clear hb
  simp only []
  go_wp2_with fail
  refine (HU.out _).mono ?_
  rintro e w2 ⟨rfl, hb⟩
  have HN2 := Lib.hid (own_fact HN1.out hb)
  have HB2 := Lib.hid (HB1.out.trans (hb.mono HB1.out.size))
  have HE3 := Lib.hid (HE2.out.below hb)
  clear hb
  simp only []
  go_wp2_with fail
  refine (HP.out _ HE3.out.2.2.2.1).mono ?_
  rintro e w3 ⟨rfl, rfl⟩
  simp only []
  go_wp2_with fail
  refine (HNW.out w2.drew HE3.out).mono ?_
  rintro e w4 ⟨⟨T, x, rfl⟩, hb⟩
  obtain ⟨c1, f1, cS⟩ := own_cell (own_fact (w := w2.drew) HN2.out hb)
  have HZ := Lib.hid ((HB2.out.drew.trans (hb.mono HB2.out.size)).setCell (p := ⟨w.heap.size, 0, none⟩) (Nat.le_refl _) (.int .i64 0))
  clear hb
  simp only []
  go_wp2_with fail
  refine bodyPost_ret (v := .tuple #[.agg #[.int .i64 0], .iface T x]) (by simp [results, Tryd.results8, go_sem, cS]) rfl ?_
  exact ⟨⟨T, x, rfl⟩, HZ.out⟩

set_option maxHeartbeats 2000000 in
theorem dec8_neg_ok (s : ByteArray) (d u k : Nat) (v f : Int) (w : World) (hs : s.size ≤ 1000000) (E : Env w) (hdd : dot (bs s) = d) (hd : d < s.size) (hp : Lib.parseIntB 64 ((bs s).take d) = .ok v) (hu : Lib.parseUintB 16 ((bs s).drop (d + 1)) = .ok u) (hk : s.size - (d + 1) + k = 4)
    (hf : (u : Int) * (pn k : Nat) = f) (hf0 : 0 ≤ f) (hf1 : f < 10000) (hu1 : (u : Int) < 10000) (h0 : 0 < s.size) (hsgn : s[0] = 45) (n : Int) (hN : newO v (-f) = Option.some n) :
    Calls Tryd.prog 8 #[.string s] w fun e w' => DecEnd (Option.some n) e ∧ Below w.heap.size w w' := by
  have I := idx11 s (w.alloc (.cells #[.int .i64 0] 29)) hs
  rw [hdd, if_pos hd] at I
  have hB0 := (Below.refl w.heap.size w).alloc (Nat.le_refl _) (.cells #[.int .i64 0] 29)
  have E1 := E.below hB0
  have P := pint12_ok (s.extract 0 d) v (w.alloc (.cells #[.int .i64 0] 29)) (by simp; omega) (by rw [bs_take]; exact hp)
  have U := fun w1 => puint13_ok (s.extract (d + 1) s.size) u w1 (by simp; omega) (by rw [bs_extract]; exact hu)
  have HU := Lib.hid U
  have HP := Lib.hid (fun w1 (T : Tabs w1) => pow14 k (by omega) w1 T)
  have NW := fun w1 (E2 : Env w1) => new15 v (-f) w1 E2 (by omega) (by omega)
  rw [hN] at NW
  have HNW := Lib.hid NW
  have CV := fun w1 => cv k (by omega) w1
  obtain ⟨m, hm⟩ : ∃ m, (s.extract (d + 1) s.size).size = m := ⟨_, rfl⟩
  have hm4 : (m : Int) ≤ 4 := by simp at hm; omega
  have hm4' : ¬ (4 : Int) < (m : Int) := by omega
  have hmk : (4 : Int) - (m : Int) = (k : Int) := by simp at hm; omega
  have hlt : (d : Int) ≤ (s.size : Int) := by omega
  have hlt1 : (d : Int) + 1 ≤ (s.size : Int) := by omega
  have hp2 : ((d : Int) + 1).toNat = d + 1 := by omega
  have HN := Lib.hid (heap_alloc_new w (.cells #[.int .i64 0] 29))
  have HB0 := Lib.hid hB0
  have HE1 := Lib.hid E1
  have hd0 : ¬ (d : Int) < 0 := by omega
  have hwr : IntKind.i64.wrap ((d : Int) + 1) = (d : Int) + 1 := by rw [IntKind.wrap_i64]; omega
  have hw1 : IntKind.i16.wrap (u : Int) = u := IntWalk.i16_in _ ⟨by omega, by omega⟩
  have hw2 : IntKind.i16.wrap f = f := IntWalk.i16_in _ ⟨by omega, by omega⟩
  have hw3 : IntKind.i16.wrap (-f) = -f := IntWalk.i16_in _ ⟨by omega, by omega⟩
  have h7 : 0 < w.heap.size := Nat.lt_of_lt_of_le (by omega) E.2.2.2.2
  have hsb : ((s[0].toNat : Int) == 45) = true := by
    rw [hsgn]; rfl
  have hs0 : (0 : Int) < (s.size : Int) := by omega
  obtain ⟨P10, hP10⟩ : ∃ P10 : Nat, pn k = P10 := ⟨_, rfl⟩
  rw [hP10] at hf CV
  obtain ⟨PW, hPW⟩ : ∃ PW : Nat, pw k = PW := ⟨_, rfl⟩
  rw [hPW] at HP CV
  clear hdd hp E hB0 E1 hu U hk hN NW hsgn hP10 hPW hf0 hf1 hu1
  go_enter Tryd.func8, Tryd.ntmps8
  go_wp2_with fail
  refine I.mono ?_
  rintro e w' ⟨rfl, rfl⟩
  simp only []
  go_wp2_with fail
  refine P.mono ?_
  rintro e w1 ⟨rfl, hb⟩
  have HN1 := Lib.hid (own_fact HN.out hb)
  have HB1 := Lib.hid (HB0.out.trans (hb.mono HB0.out.size))
  have HE2 := Lib.hid (HE1.out.below hb)
  clear hb
  simp only []
  go_wp2_with fail
  refine (HU.out _).mono ?_
  rintro e w2 ⟨rfl, hb⟩
  have HN2 := Lib.hid (own_fact HN1.out hb)
  have HB2 := Lib.hid (HB1.out.trans (hb.mono HB1.out.size))
  have HE3 := Lib.hid (HE2.out.below hb)
  clear hb
  simp only []
  go_wp2_with fail
  refine (HP.out _ HE3.out.2.2.2.1).mono ?_
  rintro e w3 ⟨rfl, rfl⟩
  simp only []
  go_wp2_with fail
  refine (HNW.out w2.drew HE3.out).mono ?_
  rintro e w4 ⟨hde, hb⟩
  obtain rfl : e = .returned (.tuple #[.agg #[.int .i64 n], .nilIface]) := hde
  obtain ⟨c1, f1, cS⟩ := own_cell (own_fact (w := w2.drew) HN2.out hb)
  have HZ := Lib.hid ((HB2.out.drew.trans (hb.mono HB2.out.size)).setCell (p := ⟨w.heap.size, 0, none⟩) (Nat.le_refl _) (.int .i64 n))
  clear hb
  simp only []
  go_wp2_with fail
  refine bodyPost_ret (v := .tuple #[.agg #[.int .i64 n], .nilIface]) (by simp [results, Tryd.results8, go_sem, cS]) rfl ?_
  exact ⟨rfl, HZ.out⟩

set_option maxHeartbeats 2000000 in
theorem dec8_neg_no (s : ByteArray) (d u k : Nat) (v f : Int) (w : World) (hs : s.size ≤ 1000000) (E : Env w) (hdd : dot (bs s) = d) (hd : d < s.size) (hp : Lib.parseIntB 64 ((bs s).take d) = .ok v) (hu : Lib.parseUintB 16 ((bs s).drop (d + 1)) = .ok u) (hk : s.size - (d + 1) + k = 4)
    (hf : (u : Int) * (pn k : Nat) = f) (hf0 : 0 ≤ f) (hf1 : f < 10000) (hu1 : (u : Int) < 10000) (h0 : 0 < s.size) (hsgn : s[0] = 45) (hN : newO v (-f) = none) :
    Calls Tryd.prog 8 #[.string s] w fun e w' => DecEnd (none) e ∧ Below w.heap.size w w' := by
  have I := idx11 s (w.alloc (.cells #[.int .i64 0] 29)) hs
  rw [hdd, if_pos hd] at I
  have hB0 := (Below.refl w.heap.size w).alloc (Nat.le_refl _) (.cells #[.int .i64 0] 29)
  have E1 := E.below hB0
  have P := pint12_ok (s.extract 0 d) v (w.alloc (.cells #[.int .i64 0] 29)) (by simp; omega) (by rw [bs_take]; exact hp)
  have U := fun w1 => puint13_ok (s.extract (d + 1) s.size) u w1 (by simp; omega) (by rw [bs_extract]; exact hu)
  have HU := Lib.hid U
  have HP := Lib.hid (fun w1 (T : Tabs w1) => pow14 k (by omega) w1 T)
  have NW := fun w1 (E2 : Env w1) => new15 v (-f) w1 E2 (by omega) (by omega)
  rw [hN] at NW
  have HNW := Lib.hid NW
  have CV := fun w1 => cv k (by omega) w1
  obtain ⟨m, hm⟩ : ∃ m, (s.extract (d + 1) s.size).size = m := ⟨_, rfl⟩
  have hm4 : (m : Int) ≤ 4 := by simp at hm; omega
  have hm4' : ¬ (4 : Int) < (m : Int) := by omega
  have hmk : (4 : Int) - (m : Int) = (k : Int) := by simp at hm; omega
  have hlt : (d : Int) ≤ (s.size : Int) := by omega
  have hlt1 : (d : Int) + 1 ≤ (s.size : Int) := by omega
  have hp2 : ((d : Int) + 1).toNat = d + 1 := by omega
  have HN := Lib.hid (heap_alloc_new w (.cells #[.int .i64 0] 29))
  have HB0 := Lib.hid hB0
  have HE1 := Lib.hid E1
  have hd0 : ¬ (d : Int) < 0 := by omega
  have hwr : IntKind.i64.wrap ((d : Int) + 1) = (d : Int) + 1 := by rw [IntKind.wrap_i64]; omega
  have hw1 : IntKind.i16.wrap (u : Int) = u := IntWalk.i16_in _ ⟨by omega, by omega⟩
  have hw2 : IntKind.i16.wrap f = f := IntWalk.i16_in _ ⟨by omega, by omega⟩
  have hw3 : IntKind.i16.wrap (-f) = -f := IntWalk.i16_in _ ⟨by omega, by omega⟩
  have h7 : 0 < w.heap.size := Nat.lt_of_lt_of_le (by omega) E.2.2.2.2
  have hsb : ((s[0].toNat : Int) == 45) = true := by
    rw [hsgn]; rfl
  have hs0 : (0 : Int) < (s.size : Int) := by omega
  obtain ⟨P10, hP10⟩ : ∃ P10 : Nat, pn k = P10 := ⟨_, rfl⟩
  rw [hP10] at hf CV
  obtain ⟨PW, hPW⟩ : ∃ PW : Nat, pw k = PW := ⟨_, rfl⟩
  rw [hPW] at HP CV
  clear hdd hp E hB0 E1 hu U hk hN NW hsgn hP10 hPW hf0 hf1 hu1
  go_enter Tryd.func8, Tryd.ntmps8
  go_wp2_with fail
  refine I.mono ?_
  rintro e w' ⟨rfl, rfl⟩
  simp only []
  go_wp2_with fail
  refine P.mono ?_
  rintro e w1 ⟨rfl, hb⟩
  have HN1 := Lib.hid (own_fact HN.out hb)
  have HB1 := Lib.hid (HB0.out.trans (hb.mono HB0.out.size))
  have HE2 := Lib.hid (HE1.out.below hb)
  clear hb
  simp only []
  go_wp2_with fail
  refine (HU.out _).mono ?_
  rintro e w2 ⟨rfl, hb⟩
  have HN2 := Lib.hid (own_fact HN1.out hb)
  have HB2 := Lib.hid (HB1.out.trans (hb.mono HB1.out.size))
  have HE3 := Lib.hid (HE2.out.below hb)
  clear hb
  simp only []
  go_wp2_with fail
  refine (HP.out _ HE3.out.2.2.2.1).mono ?_
  rintro e w3 ⟨rfl, rfl⟩
  simp only []
  go_wp2_with fail
  refine (HNW.out w2.drew HE3.out).mono ?_
  rintro e w4 ⟨⟨T, x, rfl⟩, hb⟩
  obtain ⟨c1, f1, cS⟩ := own_cell (own_fact (w := w2.drew) HN2.out hb)
  have HZ := Lib.hid ((HB2.out.drew.trans (hb.mono HB2.out.size)).setCell (p := ⟨w.heap.size, 0, none⟩) (Nat.le_refl _) (.int .i64 0))
  clear hb
  simp only []
  go_wp2_with fail
  refine bodyPost_ret (v := .tuple #[.agg #[.int .i64 0], .iface T x]) (by simp [results, Tryd.results8, go_sem, cS]) rfl ?_
  exact ⟨⟨T, x, rfl⟩, HZ.out⟩
end Go.Proofs.YtgcgccglamfncaaDoor.Dec
