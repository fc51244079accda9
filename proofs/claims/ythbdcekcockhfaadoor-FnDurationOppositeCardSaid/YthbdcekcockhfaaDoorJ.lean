/-
  FnDurationOpposite: the walk of Duration.String (15).
-/
import Derived.Test.YthbdcekcockhfaaDoorH
import Derived.Test.YthbdcekcockhfaaDoorShelf
import Derived.Lib.AppendIntMem
import Derived.Deep.DeepCutAuto
import Derived.Lib.BufferOld
import Derived.Lib.ItoaLen
import Derived.Lib.ItoaLen
import Derived.Lib.ItoaLen
import Derived.Lib.ItoaLen
namespace Go.Proofs.YthbdcekcockhfaaDoor.Dur
open Go.RowKit Go.Shelf

theorem fmt27 (n : Int) (h0 : -9223372036854775808 ≤ n) (h1 : n ≤ 9223372036854775807) (w : World) (htab : Lib.TabIs Tryd.prog w "internal/strconv.uint64pow10" .u64 Lib.pow10Tab) :
    Calls Tryd.prog 27 #[.int .i64 n, .int .i64 10] w fun e w' => e = .returned (.string ⟨(Lib.itoa n).toArray⟩) ∧ Below w.heap.size w w' := by
  refine (Any.strconv_FormatInt_10 Tryd.lays173 n h0 h1 w htab).mono ?_
  rintro e w' ⟨rfl, k, os, rfl⟩
  exact ⟨rfl, Lib.below_grow _ _ (Nat.le_refl _) k os⟩
theorem ws26 (B b : Nat) (bs : List Value) (s : ByteArray) (w : World) (h : Lib.IsBuffer 60 5 B b bs w) (hBw : B ≤ w.heap.size) (h1 : ∀ v ∈ bs, v.oneCell' = true) (hlim : bs.length + s.size ≤ 140737488355328) :
    Calls Tryd.prog 26 #[.pointer (some ⟨b, 0, none⟩), .string s] w fun e w' => e = .returned (.tuple #[.int .i64 s.size, .nilIface]) ∧ Lib.IsBuffer 60 5 B b (bs ++ Lib.byteCells s.data.toList) w' ∧ Below B w w' := Any.Buffer_WriteString Tryd.lays178 B b bs s w h hBw h1 hlim
theorem wb25 (B b : Nat) (bs : List Value) (c : Int) (w : World) (h : Lib.IsBuffer 60 5 B b bs w) (hBw : B ≤ w.heap.size) (h1 : ∀ v ∈ bs, v.oneCell' = true) (hlim : bs.length + 1 ≤ 140737488355328) :
    Calls Tryd.prog 25 #[.pointer (some ⟨b, 0, none⟩), .int .u8 c] w fun e w' => e = .returned .nilIface ∧ Lib.IsBuffer 60 5 B b (bs ++ [.int .u8 c]) w' ∧ Below B w w' := Any.Buffer_WriteByte Tryd.lays179 B b bs c w h hBw h1 hlim
theorem bstr28 (B b : Nat) (l : List UInt8) (w : World) (h : Lib.IsBuffer 60 5 B b (Lib.byteCells l) w) :
    Calls Tryd.prog 28 #[.pointer (some ⟨b, 0, none⟩)] w fun e w' => e = .returned (.string ⟨l.toArray⟩) ∧ ∃ n, w' = w.drewN n := Any.Buffer_String Tryd.lays182 B b l w h

/-- the state of the writer: its buffer holds l -/
structure BW (w : World) (l : List UInt8) (W : World) : Prop where
  buf : Lib.IsBuffer 60 5 (w.heap.size + 1) (w.heap.size + 1) (Lib.byteCells l) W
  bel : Below w.heap.size w W
  tab : Lib.TabBelow Tryd.prog (w.heap.size + 1) W "internal/strconv.uint64pow10" .u64 Lib.pow10Tab
  len : l.length ≤ 1000
  siz : w.heap.size + 1 ≤ W.heap.size
/-- MARK -/
theorem itoa_len (m : Nat) (h : m ≤ 9223372036854775807) : (Lib.itoa (m : Int)).length ≤ 21 := Lib.itoa_length_le _ (by omega) (by omega)
theorem BW.len_cells {w W : World} {l : List UInt8} (h : BW w l W) : (Lib.byteCells l).length ≤ 1000 := by rw [Lib.byteCells_length]; exact h.len
theorem BW.fmt {w W W1 : World} {l : List UInt8} (h : BW w l W) (hb : Below W.heap.size W W1) : BW w l W1 :=
  ⟨h.buf.old hb, h.bel.trans (hb.mono (Nat.le_of_succ_le h.siz)), h.tab.on (hb.mono h.siz), h.len, Nat.le_trans h.siz hb.size⟩
theorem BW.put {w W W1 : World} {l m : List UInt8} (h : BW w l W) (hi : Lib.IsBuffer 60 5 (w.heap.size + 1) (w.heap.size + 1) (Lib.byteCells l ++ Lib.byteCells m) W1) (hb : Below (w.heap.size + 1) W W1) (hl : (l ++ m).length ≤ 1000) : BW w (l ++ m) W1 :=
  ⟨by rw [Lib.byteCells_append]; exact hi, h.bel.trans (hb.mono (Nat.le_succ _)), h.tab.on hb, hl, Nat.le_trans h.siz hb.size⟩
/-- a number and its unit, where there is one -/
def part (n : Nat) (u : List UInt8) : List UInt8 := if 0 < n then Lib.itoa n ++ u else []
theorem part_len {n : Nat} {u : List UInt8} (hn : n ≤ 9223372036854775807) (hu : u.length ≤ 2) : (part n u).length ≤ 23 := by
  unfold part; split
  · have := itoa_len n hn; rw [List.length_append]; omega
  · simp

/-- the text of so many milliseconds -/
def dtext (r0 : Nat) : List UInt8 :=
  part (r0 / 86400000) [100] ++ part (r0 % 86400000 / 3600000) [104] ++ part (r0 % 86400000 % 3600000 / 60000) [109] ++ part (r0 % 86400000 % 3600000 % 60000 / 1000) [115] ++ part (r0 % 86400000 % 3600000 % 60000 % 1000) [109, 115]
theorem BW.start (w : World) (v : Int) (htab : Lib.TabIs Tryd.prog w "internal/strconv.uint64pow10" .u64 Lib.pow10Tab) :
    BW w [] ((w.alloc (.cells #[.int .i64 v] 36)).alloc (.cells #[.slice none 0 0, .int .i64 0, .int .i8 0] 60)) := by
  have hs : (w.alloc (.cells #[.int .i64 v] 36)).heap.size = w.heap.size + 1 := by simp
  have hf := Lib.fresh_isBuffer 60 5 (w.alloc (.cells #[.int .i64 v] 36))
  rw [hs] at hf
  have ht := Lib.tabBelow_of_tabIs htab
  have b1 := (Below.refl w.heap.size w).alloc (Nat.le_refl _) (.cells #[.int .i64 v] 36)
  have b2 := b1.alloc b1.size (.cells #[.slice none 0 0, .int .i64 0, .int .i8 0] 60)
  have hs2 : ((w.alloc (.cells #[.int .i64 v] 36)).alloc (.cells #[.slice none 0 0, .int .i64 0, .int .i8 0] 60)).heap.size = w.heap.size + 2 := by simp
  exact ⟨hf, b2, fun w' hb' => ht w' (b2.trans (hb'.mono (Nat.le_succ _))), by simp, by rw [hs2]; omega⟩

set_option maxRecDepth 100000 in
set_option maxHeartbeats 4000000 in
theorem str15_pos (r0 : Nat) (w : World) (h0 : 0 < r0) (h1 : r0 ≤ 9223372036854775807) (htab : Lib.TabIs Tryd.prog w "internal/strconv.uint64pow10" .u64 Lib.pow10Tab) :
    Calls Tryd.prog 15 #[.agg #[.int .i64 r0]] w fun e w' => e = .returned (.string ⟨(dtext r0).toArray⟩) ∧ Below w.heap.size w w' := by
  have g0 : ((r0 : Int) == 0) = false := beq_eq_false_iff_ne.2 (by omega)
  have g1 : ¬ (r0 : Int) < 0 := by omega
  have HB := Lib.hid (BW.start w r0 htab)
  obtain ⟨l0, el0⟩ : ∃ l : List UInt8, l = [] := ⟨_, rfl⟩
  have lenl0 : l0.length ≤ 30 := by rw [el0]; simp
  rw [← el0] at HB
  have EL0 := Lib.hid el0
  clear el0 htab
  go_enter Tryd.func15, Tryd.ntmps15
  go_upto_if 24 with fail
  rw [show ((r0 : Int) / 86400000) = ((r0 / 86400000 : Nat) : Int) by omega]
  obtain ⟨n0, hn0⟩ : ∃ n, n = r0 / 86400000 := ⟨_, rfl⟩
  rw [← hn0]
  have bn0 : n0 ≤ 9223372036854775807 := by omega
  have HN0 := Lib.hid hn0
  clear hn0
  go_cut [] from 24 to 28 (fun wx => BW w (l0 ++ part n0 [100]) wx)
  case first =>
    by_cases hp : 0 < n0
    · have hp' : (0 : Int) < (n0 : Int) := by omega
      have hil := itoa_len n0 (by omega)
      go_wp2_with fail
      refine (fmt27 n0 (by omega) (by omega) _ HB.out.tab.here).mono ?_
      rintro e wa ⟨rfl, ba⟩
      have HA := Lib.hid (HB.out.fmt ba)
      clear ba
      simp only []
      go_wp2_with fail
      refine (ws26 _ _ _ _ _ HA.out.buf HA.out.siz (Lib.byteCells_one _) ?_).mono ?_
      · have := HA.out.len_cells; rw [sz_mk]; omega
      rintro e wb ⟨rfl, ib, bb⟩
      have HC := Lib.hid (HA.out.put (m := Lib.itoa n0) ib bb (by rw [List.length_append]; omega))
      clear ib bb
      simp only []
      go_wp2_with fail
      refine (wb25 _ _ _ _ _ HC.out.buf HC.out.siz (Lib.byteCells_one _) ?_).mono ?_
      · have := HC.out.len_cells; omega
      rintro e wc ⟨rfl, ic, bc⟩
      have HE := Lib.hid (HC.out.put (m := [100]) ic bc (by rw [List.length_append, List.length_append]; simp; omega))
      clear ic bc
      simp only []
      go_wp2_with fail
      go_meet
      have hE := HE.out
      unfold part
      rw [if_pos hp]
      simpa using hE
    · have hp' : ¬ (0 : Int) < (n0 : Int) := by omega
      go_wp2_with fail
      go_meet
      unfold part
      rw [if_neg hp]
      simpa using HB.out
  case rest =>
  replace HB := Lib.hid hcut
  clear hcut
  have hpl := part_len (n := n0) (u := [100]) (by omega) (by simp)
  obtain ⟨l1, el1⟩ : ∃ l, l = l0 ++ part n0 [100] := ⟨_, rfl⟩
  have lenl1 : l1.length ≤ 60 := by rw [el1, List.length_append]; omega
  rw [← el1] at HB
  have EL1 := Lib.hid el1
  clear hpl el1
  go_upto_if 34 with fail
  rw [show ((r0 : Int) % 86400000) = ((r0 % 86400000 : Nat) : Int) by omega]
  obtain ⟨r1, hr1⟩ : ∃ r, r = r0 % 86400000 := ⟨_, rfl⟩
  rw [← hr1]
  have br1 : r1 ≤ 9223372036854775807 := by omega
  have HR1 := Lib.hid hr1
  clear hr1
  rw [show ((r1 : Int) / 3600000) = ((r1 / 3600000 : Nat) : Int) by omega]
  obtain ⟨n1, hn1⟩ : ∃ n, n = r1 / 3600000 := ⟨_, rfl⟩
  rw [← hn1]
  have bn1 : n1 ≤ 9223372036854775807 := by omega
  have HN1 := Lib.hid hn1
  clear hn1
  go_cut [] from 34 to 38 (fun wx => BW w (l1 ++ part n1 [104]) wx)
  case first =>
    by_cases hp : 0 < n1
    · have hp' : (0 : Int) < (n1 : Int) := by omega
      have hil := itoa_len n1 (by omega)
      go_wp2_with fail
      refine (fmt27 n1 (by omega) (by omega) _ HB.out.tab.here).mono ?_
      rintro e wa ⟨rfl, ba⟩
      have HA := Lib.hid (HB.out.fmt ba)
      clear ba
      simp only []
      go_wp2_with fail
      refine (ws26 _ _ _ _ _ HA.out.buf HA.out.siz (Lib.byteCells_one _) ?_).mono ?_
      · have := HA.out.len_cells; rw [sz_mk]; omega
      rintro e wb ⟨rfl, ib, bb⟩
      have HC := Lib.hid (HA.out.put (m := Lib.itoa n1) ib bb (by rw [List.length_append]; omega))
      clear ib bb
      simp only []
      go_wp2_with fail
      refine (wb25 _ _ _ _ _ HC.out.buf HC.out.siz (Lib.byteCells_one _) ?_).mono ?_
      · have := HC.out.len_cells; omega
      rintro e wc ⟨rfl, ic, bc⟩
      have HE := Lib.hid (HC.out.put (m := [104]) ic bc (by rw [List.length_append, List.length_append]; simp; omega))
      clear ic bc
      simp only []
      go_wp2_with fail
      go_meet
      have hE := HE.out
      unfold part
      rw [if_pos hp]
      simpa using hE
    · have hp' : ¬ (0 : Int) < (n1 : Int) := by omega
      go_wp2_with fail
      go_meet
      unfold part
      rw [if_neg hp]
      simpa using HB.out
  case rest =>
  replace HB := Lib.hid hcut
  clear hcut
  have hpl := part_len (n := n1) (u := [104]) (by omega) (by simp)
  obtain ⟨l2, el2⟩ : ∃ l, l = l1 ++ part n1 [104] := ⟨_, rfl⟩
  have lenl2 : l2.length ≤ 90 := by rw [el2, List.length_append]; omega
  rw [← el2] at HB
  have EL2 := Lib.hid el2
  clear hpl el2
  go_upto_if 44 with fail
  rw [show ((r1 : Int) % 3600000) = ((r1 % 3600000 : Nat) : Int) by omega]
  obtain ⟨r2, hr2⟩ : ∃ r, r = r1 % 3600000 := ⟨_, rfl⟩
  rw [← hr2]
  have br2 : r2 ≤ 9223372036854775807 := by omega
  have HR2 := Lib.hid hr2
  clear hr2
  rw [show ((r2 : Int) / 60000) = ((r2 / 60000 : Nat) : Int) by omega]
  obtain ⟨n2, hn2⟩ : ∃ n, n = r2 / 60000 := ⟨_, rfl⟩
  rw [← hn2]
  have bn2 : n2 ≤ 9223372036854775807 := by omega
  have HN2 := Lib.hid hn2
  clear hn2
  go_cut [] from 44 to 48 (fun wx => BW w (l2 ++ part n2 [109]) wx)
  case first =>
    by_cases hp : 0 < n2
    · have hp' : (0 : Int) < (n2 : Int) := by omega
      have hil := itoa_len n2 (by omega)
      go_wp2_with fail
      refine (fmt27 n2 (by omega) (by omega) _ HB.out.tab.here).mono ?_
      rintro e wa ⟨rfl, ba⟩
      have HA := Lib.hid (HB.out.fmt ba)
      clear ba
      simp only []
      go_wp2_with fail
      refine (ws26 _ _ _ _ _ HA.out.buf HA.out.siz (Lib.byteCells_one _) ?_).mono ?_
      · have := HA.out.len_cells; rw [sz_mk]; omega
      rintro e wb ⟨rfl, ib, bb⟩
      have HC := Lib.hid (HA.out.put (m := Lib.itoa n2) ib bb (by rw [List.length_append]; omega))
      clear ib bb
      simp only []
      go_wp2_with fail
      refine (wb25 _ _ _ _ _ HC.out.buf HC.out.siz (Lib.byteCells_one _) ?_).mono ?_
      · have := HC.out.len_cells; omega
      rintro e wc ⟨rfl, ic, bc⟩
      have HE := Lib.hid (HC.out.put (m := [109]) ic bc (by rw [List.length_append, List.length_append]; simp; omega))
      clear ic bc
      simp only []
      go_wp2_with fail
      go_meet
      have hE := HE.out
      unfold part
      rw [if_pos hp]
      simpa using hE
    · have hp' : ¬ (0 : Int) < (n2 : Int) := by omega
      go_wp2_with fail
      go_meet
      unfold part
      rw [if_neg hp]
      simpa using HB.out
  case rest =>
  replace HB := Lib.hid hcut
  clear hcut
  have hpl := part_len (n := n2) (u := [109]) (by omega) (by simp)
  obtain ⟨l3, el3⟩ : ∃ l, l = l2 ++ part n2 [109] := ⟨_, rfl⟩
  have lenl3 : l3.length ≤ 120 := by rw [el3, List.length_append]; omega
  rw [← el3] at HB
  have EL3 := Lib.hid el3
  clear hpl el3
  go_upto_if 54 with fail
  rw [show ((r2 : Int) % 60000) = ((r2 % 60000 : Nat) : Int) by omega]
  obtain ⟨r3, hr3⟩ : ∃ r, r = r2 % 60000 := ⟨_, rfl⟩
  rw [← hr3]
  have br3 : r3 ≤ 9223372036854775807 := by omega
  have HR3 := Lib.hid hr3
  clear hr3
  rw [show ((r3 : Int) / 1000) = ((r3 / 1000 : Nat) : Int) by omega]
  obtain ⟨n3, hn3⟩ : ∃ n, n = r3 / 1000 := ⟨_, rfl⟩
  rw [← hn3]
  have bn3 : n3 ≤ 9223372036854775807 := by omega
  have HN3 := Lib.hid hn3
  clear hn3
  go_cut [] from 54 to 58 (fun wx => BW w (l3 ++ part n3 [115]) wx)
  case first =>
    by_cases hp : 0 < n3
    · have hp' : (0 : Int) < (n3 : Int) := by omega
      have hil := itoa_len n3 (by omega)
      go_wp2_with fail
      refine (fmt27 n3 (by omega) (by omega) _ HB.out.tab.here).mono ?_
      rintro e wa ⟨rfl, ba⟩
      have HA := Lib.hid (HB.out.fmt ba)
      clear ba
      simp only []
      go_wp2_with fail
      refine (ws26 _ _ _ _ _ HA.out.buf HA.out.siz (Lib.byteCells_one _) ?_).mono ?_
      · have := HA.out.len_cells; rw [sz_mk]; omega
      rintro e wb ⟨rfl, ib, bb⟩
      have HC := Lib.hid (HA.out.put (m := Lib.itoa n3) ib bb (by rw [List.length_append]; omega))
      clear ib bb
      simp only []
      go_wp2_with fail
      refine (wb25 _ _ _ _ _ HC.out.buf HC.out.siz (Lib.byteCells_one _) ?_).mono ?_
      · have := HC.out.len_cells; omega
      rintro e wc ⟨rfl, ic, bc⟩
      have HE := Lib.hid (HC.out.put (m := [115]) ic bc (by rw [List.length_append, List.length_append]; simp; omega))
      clear ic bc
      simp only []
      go_wp2_with fail
      go_meet
      have hE := HE.out
      unfold part
      rw [if_pos hp]
      simpa using hE
    · have hp' : ¬ (0 : Int) < (n3 : Int) := by omega
      go_wp2_with fail
      go_meet
      unfold part
      rw [if_neg hp]
      simpa using HB.out
  case rest =>
  replace HB := Lib.hid hcut
  clear hcut
  have hpl := part_len (n := n3) (u := [115]) (by omega) (by simp)
  obtain ⟨l4, el4⟩ : ∃ l, l = l3 ++ part n3 [115] := ⟨_, rfl⟩
  have lenl4 : l4.length ≤ 150 := by rw [el4, List.length_append]; omega
  rw [← el4] at HB
  have EL4 := Lib.hid el4
  clear hpl el4
  go_upto_if 62 with fail
  rw [show ((r3 : Int) % 1000) = ((r3 % 1000 : Nat) : Int) by omega]
  obtain ⟨r4, hr4⟩ : ∃ r, r = r3 % 1000 := ⟨_, rfl⟩
  rw [← hr4]
  have br4 : r4 ≤ 9223372036854775807 := by omega
  have HR4 := Lib.hid hr4
  clear hr4
  go_cut [] from 62 to 66 (fun wx => BW w (l4 ++ part r4 [109, 115]) wx)
  case first =>
    by_cases hp : 0 < r4
    · have hp' : (0 : Int) < (r4 : Int) := by omega
      have hil := itoa_len r4 (by omega)
      go_wp2_with fail
      refine (fmt27 r4 (by omega) (by omega) _ HB.out.tab.here).mono ?_
      rintro e wa ⟨rfl, ba⟩
      have HA := Lib.hid (HB.out.fmt ba)
      clear ba
      simp only []
      go_wp2_with fail
      refine (ws26 _ _ _ _ _ HA.out.buf HA.out.siz (Lib.byteCells_one _) ?_).mono ?_
      · have := HA.out.len_cells; rw [sz_mk]; omega
      rintro e wb ⟨rfl, ib, bb⟩
      have HC := Lib.hid (HA.out.put (m := Lib.itoa r4) ib bb (by rw [List.length_append]; omega))
      clear ib bb
      simp only []
      go_wp2_with fail
      refine (ws26 _ _ _ _ _ HC.out.buf HC.out.siz (Lib.byteCells_one _) ?_).mono ?_
      · have := HC.out.len_cells; rw [show (ByteArray.mk #[109, 115]).size = 2 from rfl]; omega
      rintro e wc ⟨rfl, ic, bc⟩
      have HE := Lib.hid (HC.out.put (m := [109, 115]) ic bc (by rw [List.length_append, List.length_append]; simp; omega))
      clear ic bc
      simp only []
      go_wp2_with fail
      go_meet
      have hE := HE.out
      unfold part
      rw [if_pos hp]
      simpa using hE
    · have hp' : ¬ (0 : Int) < (r4 : Int) := by omega
      go_wp2_with fail
      go_meet
      unfold part
      rw [if_neg hp]
      simpa using HB.out
  case rest =>
  replace HB := Lib.hid hcut
  clear hcut
  have hpl := part_len (n := r4) (u := [109, 115]) (by omega) (by simp)
  obtain ⟨l5, el5⟩ : ∃ l, l = l4 ++ part r4 [109, 115] := ⟨_, rfl⟩
  have lenl5 : l5.length ≤ 180 := by rw [el5, List.length_append]; omega
  rw [← el5] at HB
  have EL5 := Lib.hid el5
  clear hpl el5
  go_wp2_with fail
  refine (bstr28 _ _ _ _ HB.out.buf).mono ?_
  rintro e wz ⟨rfl, nz, rfl⟩
  simp only []
  go_wp2_with fail
  go_ret
  refine ⟨congrArg (fun l : List UInt8 => Ending.returned (.string ⟨l.toArray⟩)) ?_, HB.out.bel.trans ⟨rfl, rfl, rfl, Nat.le_refl _, fun _ _ => rfl⟩⟩
  rw [EL5.out, EL4.out, EL3.out, EL2.out, EL1.out, EL0.out, HN0.out, HN1.out, HN2.out, HN3.out, HR4.out, HR3.out, HR2.out, HR1.out]
  simp [dtext]

set_option maxRecDepth 100000 in
set_option maxHeartbeats 4000000 in
theorem str15_neg (r0 : Nat) (w : World) (h0 : 0 < r0) (h1 : r0 ≤ 9223372036854775807) (htab : Lib.TabIs Tryd.prog w "internal/strconv.uint64pow10" .u64 Lib.pow10Tab) :
    Calls Tryd.prog 15 #[.agg #[.int .i64 (-(r0 : Int))]] w fun e w' => e = .returned (.string ⟨(45 :: dtext r0).toArray⟩) ∧ Below w.heap.size w w' := by
  have g0 : (-(r0 : Int) == 0) = false := beq_eq_false_iff_ne.2 (by omega)
  have g1 : (-(r0 : Int)) < 0 := by omega
  have HB := Lib.hid (BW.start w (-(r0 : Int)) htab)
  clear htab
  go_enter Tryd.func15, Tryd.ntmps15
  go_wp2_with fail
  refine (wb25 _ _ _ _ _ HB.out.buf HB.out.siz (Lib.byteCells_one _) ?_).mono ?_
  · have := HB.out.len_cells; omega
  rintro e wc ⟨rfl, ic, bc⟩
  replace HB := Lib.hid (HB.out.put (m := [45]) ic bc (by simp))
  clear ic bc
  obtain ⟨l0, el0⟩ : ∃ l : List UInt8, l = [] ++ [45] := ⟨_, rfl⟩
  have lenl0 : l0.length ≤ 30 := by rw [el0]; simp
  rw [← el0] at HB
  have EL0 := Lib.hid el0
  clear el0
  simp only []
  go_upto_if 24 with fail
  rw [show ((r0 : Int) / 86400000) = ((r0 / 86400000 : Nat) : Int) by omega]
  obtain ⟨n0, hn0⟩ : ∃ n, n = r0 / 86400000 := ⟨_, rfl⟩
  rw [← hn0]
  have bn0 : n0 ≤ 9223372036854775807 := by omega
  have HN0 := Lib.hid hn0
  clear hn0
  go_cut [] from 24 to 28 (fun wx => BW w (l0 ++ part n0 [100]) wx)
  case first =>
    by_cases hp : 0 < n0
    · have hp' : (0 : Int) < (n0 : Int) := by omega
      have hil := itoa_len n0 (by omega)
      go_wp2_with fail
      refine (fmt27 n0 (by omega) (by omega) _ HB.out.tab.here).mono ?_
      rintro e wa ⟨rfl, ba⟩
      have HA := Lib.hid (HB.out.fmt ba)
      clear ba
      simp only []
      go_wp2_with fail
      refine (ws26 _ _ _ _ _ HA.out.buf HA.out.siz (Lib.byteCells_one _) ?_).mono ?_
      · have := HA.out.len_cells; rw [sz_mk]; omega
      rintro e wb ⟨rfl, ib, bb⟩
      have HC := Lib.hid (HA.out.put (m := Lib.itoa n0) ib bb (by rw [List.length_append]; omega))
      clear ib bb
      simp only []
      go_wp2_with fail
      refine (wb25 _ _ _ _ _ HC.out.buf HC.out.siz (Lib.byteCells_one _) ?_).mono ?_
      · have := HC.out.len_cells; omega
      rintro e wc ⟨rfl, ic, bc⟩
      have HE := Lib.hid (HC.out.put (m := [100]) ic bc (by rw [List.length_append, List.length_append]; simp; omega))
      clear ic bc
      simp only []
      go_wp2_with fail
      go_meet
      have hE := HE.out
      unfold part
      rw [if_pos hp]
      simpa using hE
    · have hp' : ¬ (0 : Int) < (n0 : Int) := by omega
      go_wp2_with fail
      go_meet
      unfold part
      rw [if_neg hp]
      simpa using HB.out
  case rest =>
  replace HB := Lib.hid hcut
  clear hcut
  have hpl := part_len (n := n0) (u := [100]) (by omega) (by simp)
  obtain ⟨l1, el1⟩ : ∃ l, l = l0 ++ part n0 [100] := ⟨_, rfl⟩
  have lenl1 : l1.length ≤ 60 := by rw [el1, List.length_append]; omega
  rw [← el1] at HB
  have EL1 := Lib.hid el1
  clear hpl el1
  go_upto_if 34 with fail
  rw [show ((r0 : Int) % 86400000) = ((r0 % 86400000 : Nat) : Int) by omega]
  obtain ⟨r1, hr1⟩ : ∃ r, r = r0 % 86400000 := ⟨_, rfl⟩
  rw [← hr1]
  have br1 : r1 ≤ 9223372036854775807 := by omega
  have HR1 := Lib.hid hr1
  clear hr1
  rw [show ((r1 : Int) / 3600000) = ((r1 / 3600000 : Nat) : Int) by omega]
  obtain ⟨n1, hn1⟩ : ∃ n, n = r1 / 3600000 := ⟨_, rfl⟩
  rw [← hn1]
  have bn1 : n1 ≤ 9223372036854775807 := by omega
  have HN1 := Lib.hid hn1
  clear hn1
  go_cut [] from 34 to 38 (fun wx => BW w (l1 ++ part n1 [104]) wx)
  case first =>
    by_cases hp : 0 < n1
    · have hp' : (0 : Int) < (n1 : Int) := by omega
      have hil := itoa_len n1 (by omega)
      go_wp2_with fail
      refine (fmt27 n1 (by omega) (by omega) _ HB.out.tab.here).mono ?_
      rintro e wa ⟨rfl, ba⟩
      have HA := Lib.hid (HB.out.fmt ba)
      clear ba
      simp only []
      go_wp2_with fail
      refine (ws26 _ _ _ _ _ HA.out.buf HA.out.siz (Lib.byteCells_one _) ?_).mono ?_
      · have := HA.out.len_cells; rw [sz_mk]; omega
      rintro e wb ⟨rfl, ib, bb⟩
      have HC := Lib.hid (HA.out.put (m := Lib.itoa n1) ib bb (by rw [List.length_append]; omega))
      clear ib bb
      simp only []
      go_wp2_with fail
      refine (wb25 _ _ _ _ _ HC.out.buf HC.out.siz (Lib.byteCells_one _) ?_).mono ?_
      · have := HC.out.len_cells; omega
      rintro e wc ⟨rfl, ic, bc⟩
      have HE := Lib.hid (HC.out.put (m := [104]) ic bc (by rw [List.length_append, List.length_append]; simp; omega))
      clear ic bc
      simp only []
      go_wp2_with fail
      go_meet
      have hE := HE.out
      unfold part
      rw [if_pos hp]
      simpa using hE
    · have hp' : ¬ (0 : Int) < (n1 : Int) := by omega
      go_wp2_with fail
      go_meet
      unfold part
      rw [if_neg hp]
      simpa using HB.out
  case rest =>
  replace HB := Lib.hid hcut
  clear hcut
  have hpl := part_len (n := n1) (u := [104]) (by omega) (by simp)
  obtain ⟨l2, el2⟩ : ∃ l, l = l1 ++ part n1 [104] := ⟨_, rfl⟩
  have lenl2 : l2.length ≤ 90 := by rw [el2, List.length_append]; omega
  rw [← el2] at HB
  have EL2 := Lib.hid el2
  clear hpl el2
  go_upto_if 44 with fail
  rw [show ((r1 : Int) % 3600000) = ((r1 % 3600000 : Nat) : Int) by omega]
  obtain ⟨r2, hr2⟩ : ∃ r, r = r1 % 3600000 := ⟨_, rfl⟩
  rw [← hr2]
  have br2 : r2 ≤ 9223372036854775807 := by omega
  have HR2 := Lib.hid hr2
  clear hr2
  rw [show ((r2 : Int) / 60000) = ((r2 / 60000 : Nat) : Int) by omega]
  obtain ⟨n2, hn2⟩ : ∃ n, n = r2 / 60000 := ⟨_, rfl⟩
  rw [← hn2]
  have bn2 : n2 ≤ 9223372036854775807 := by omega
  have HN2 := Lib.hid hn2
  clear hn2
  go_cut [] from 44 to 48 (fun wx => BW w (l2 ++ part n2 [109]) wx)
  case first =>
    by_cases hp : 0 < n2
    · have hp' : (0 : Int) < (n2 : Int) := by omega
      have hil := itoa_len n2 (by omega)
      go_wp2_with fail
      refine (fmt27 n2 (by omega) (by omega) _ HB.out.tab.here).mono ?_
      rintro e wa ⟨rfl, ba⟩
      have HA := Lib.hid (HB.out.fmt ba)
      clear ba
      simp only []
      go_wp2_with fail
      refine (ws26 _ _ _ _ _ HA.out.buf HA.out.siz (Lib.byteCells_one _) ?_).mono ?_
      · have := HA.out.len_cells; rw [sz_mk]; omega
      rintro e wb ⟨rfl, ib, bb⟩
      have HC := Lib.hid (HA.out.put (m := Lib.itoa n2) ib bb (by rw [List.length_append]; omega))
      clear ib bb
      simp only []
      go_wp2_with fail
      refine (wb25 _ _ _ _ _ HC.out.buf HC.out.siz (Lib.byteCells_one _) ?_).mono ?_
      · have := HC.out.len_cells; omega
      rintro e wc ⟨rfl, ic, bc⟩
      have HE := Lib.hid (HC.out.put (m := [109]) ic bc (by rw [List.length_append, List.length_append]; simp; omega))
      clear ic bc
      simp only []
      go_wp2_with fail
      go_meet
      have hE := HE.out
      unfold part
      rw [if_pos hp]
      simpa using hE
    · have hp' : ¬ (0 : Int) < (n2 : Int) := by omega
      go_wp2_with fail
      go_meet
      unfold part
      rw [if_neg hp]
      simpa using HB.out
  case rest =>
  replace HB := Lib.hid hcut
  clear hcut
  have hpl := part_len (n := n2) (u := [109]) (by omega) (by simp)
  obtain ⟨l3, el3⟩ : ∃ l, l = l2 ++ part n2 [109] := ⟨_, rfl⟩
  have lenl3 : l3.length ≤ 120 := by rw [el3, List.length_append]; omega
  rw [← el3] at HB
  have EL3 := Lib.hid el3
  clear hpl el3
  go_upto_if 54 with fail
  rw [show ((r2 : Int) % 60000) = ((r2 % 60000 : Nat) : Int) by omega]
  obtain ⟨r3, hr3⟩ : ∃ r, r = r2 % 60000 := ⟨_, rfl⟩
  rw [← hr3]
  have br3 : r3 ≤ 9223372036854775807 := by omega
  have HR3 := Lib.hid hr3
  clear hr3
  rw [show ((r3 : Int) / 1000) = ((r3 / 1000 : Nat) : Int) by omega]
  obtain ⟨n3, hn3⟩ : ∃ n, n = r3 / 1000 := ⟨_, rfl⟩
  rw [← hn3]
  have bn3 : n3 ≤ 9223372036854775807 := by omega
  have HN3 := Lib.hid hn3
  clear hn3
  go_cut [] from 54 to 58 (fun wx => BW w (l3 ++ part n3 [115]) wx)
  case first =>
    by_cases hp : 0 < n3
    · have hp' : (0 : Int) < (n3 : Int) := by omega
      have hil := itoa_len n3 (by omega)
      go_wp2_with fail
      refine (fmt27 n3 (by omega) (by omega) _ HB.out.tab.here).mono ?_
      rintro e wa ⟨rfl, ba⟩
      have HA := Lib.hid (HB.out.fmt ba)
      clear ba
      simp only []
      go_wp2_with fail
      refine (ws26 _ _ _ _ _ HA.out.buf HA.out.siz (Lib.byteCells_one _) ?_).mono ?_
      · have := HA.out.len_cells; rw [sz_mk]; omega
      rintro e wb ⟨rfl, ib, bb⟩
      have HC := Lib.hid (HA.out.put (m := Lib.itoa n3) ib bb (by rw [List.length_append]; omega))
      clear ib bb
      simp only []
      go_wp2_with fail
      refine (wb25 _ _ _ _ _ HC.out.buf HC.out.siz (Lib.byteCells_one _) ?_).mono ?_
      · have := HC.out.len_cells; omega
      rintro e wc ⟨rfl, ic, bc⟩
      have HE := Lib.hid (HC.out.put (m := [115]) ic bc (by rw [List.length_append, List.length_append]; simp; omega))
      clear ic bc
      simp only []
      go_wp2_with fail
      go_meet
      have hE := HE.out
      unfold part
      rw [if_pos hp]
      simpa using hE
    · have hp' : ¬ (0 : Int) < (n3 : Int) := by omega
      go_wp2_with fail
      go_meet
      unfold part
      rw [if_neg hp]
      simpa using HB.out
  case rest =>
  replace HB := Lib.hid hcut
  clear hcut
  have hpl := part_len (n := n3) (u := [115]) (by omega) (by simp)
  obtain ⟨l4, el4⟩ : ∃ l, l = l3 ++ part n3 [115] := ⟨_, rfl⟩
  have lenl4 : l4.length ≤ 150 := by rw [el4, List.length_append]; omega
  rw [← el4] at HB
  have EL4 := Lib.hid el4
  clear hpl el4
  go_upto_if 62 with fail
  rw [show ((r3 : Int) % 1000) = ((r3 % 1000 : Nat) : Int) by omega]
  obtain ⟨r4, hr4⟩ : ∃ r, r = r3 % 1000 := ⟨_, rfl⟩
  rw [← hr4]
  have br4 : r4 ≤ 9223372036854775807 := by omega
  have HR4 := Lib.hid hr4
  clear hr4
  go_cut [] from 62 to 66 (fun wx => BW w (l4 ++ part r4 [109, 115]) wx)
  case first =>
    by_cases hp : 0 < r4
    · have hp' : (0 : Int) < (r4 : Int) := by omega
      have hil := itoa_len r4 (by omega)
      go_wp2_with fail
      refine (fmt27 r4 (by omega) (by omega) _ HB.out.tab.here).mono ?_
      rintro e wa ⟨rfl, ba⟩
      have HA := Lib.hid (HB.out.fmt ba)
      clear ba
      simp only []
      go_wp2_with fail
      refine (ws26 _ _ _ _ _ HA.out.buf HA.out.siz (Lib.byteCells_one _) ?_).mono ?_
      · have := HA.out.len_cells; rw [sz_mk]; omega
      rintro e wb ⟨rfl, ib, bb⟩
      have HC := Lib.hid (HA.out.put (m := Lib.itoa r4) ib bb (by rw [List.length_append]; omega))
      clear ib bb
      simp only []
      go_wp2_with fail
      refine (ws26 _ _ _ _ _ HC.out.buf HC.out.siz (Lib.byteCells_one _) ?_).mono ?_
      · have := HC.out.len_cells; rw [show (ByteArray.mk #[109, 115]).size = 2 from rfl]; omega
      rintro e wc ⟨rfl, ic, bc⟩
      have HE := Lib.hid (HC.out.put (m := [109, 115]) ic bc (by rw [List.length_append, List.length_append]; simp; omega))
      clear ic bc
      simp only []
      go_wp2_with fail
      go_meet
      have hE := HE.out
      unfold part
      rw [if_pos hp]
      simpa using hE
    · have hp' : ¬ (0 : Int) < (r4 : Int) := by omega
      go_wp2_with fail
      go_meet
      unfold part
      rw [if_neg hp]
      simpa using HB.out
  case rest =>
  replace HB := Lib.hid hcut
  clear hcut
  have hpl := part_len (n := r4) (u := [109, 115]) (by omega) (by simp)
  obtain ⟨l5, el5⟩ : ∃ l, l = l4 ++ part r4 [109, 115] := ⟨_, rfl⟩
  have lenl5 : l5.length ≤ 180 := by rw [el5, List.length_append]; omega
  rw [← el5] at HB
  have EL5 := Lib.hid el5
  clear hpl el5
  go_wp2_with fail
  refine (bstr28 _ _ _ _ HB.out.buf).mono ?_
  rintro e wz ⟨rfl, nz, rfl⟩
  simp only []
  go_wp2_with fail
  go_ret
  refine ⟨congrArg (fun l : List UInt8 => Ending.returned (.string ⟨l.toArray⟩)) ?_, HB.out.bel.trans ⟨rfl, rfl, rfl, Nat.le_refl _, fun _ _ => rfl⟩⟩
  rw [EL5.out, EL4.out, EL3.out, EL2.out, EL1.out, EL0.out, HN0.out, HN1.out, HN2.out, HN3.out, HR4.out, HR3.out, HR2.out, HR1.out]
  simp [dtext]
end Go.Proofs.YthbdcekcockhfaaDoor.Dur
