/-
  FnDurationOpposite: the plain law on the text; the walks of DurationText (10) and of the law (5).
-/
import Derived.Test.YthbdcekcockhfaaDoorJ
import Derived.Laws.Concat
namespace Go.Proofs.YthbdcekcockhfaaDoor.Dur
open Go.RowKit Go.Shelf

theorem dec_dig (u : Nat) : Lib.decDigits u ≠ [] ∧ ∀ c ∈ Lib.decDigits u, PD.dig c = true := by
  induction u using Nat.strongRecOn with
  | ind u ih =>
    unfold Lib.decDigits
    split
    · rename_i h
      refine ⟨by simp, fun c hc => ?_⟩
      simp only [List.mem_singleton] at hc
      subst hc
      have := dig_of u
      unfold dgt at this
      rw [Nat.mod_eq_of_lt h] at this
      exact this
    · rename_i h
      obtain ⟨i1, i2⟩ := ih (u / 10) (by omega)
      refine ⟨by simp, fun c hc => ?_⟩
      rcases List.mem_append.1 hc with hc | hc
      · exact i2 c hc
      · simp only [List.mem_singleton] at hc
        subst hc
        exact dig_of u
theorem itoa_nat (n : Nat) : Lib.itoa (n : Int) = Lib.decDigits n := by
  unfold Lib.itoa; rw [if_neg (by omega)]; simp
theorem part_head {n : Nat} (h : 0 < n) (u r : List UInt8) : ∃ c t, part n u ++ r = c :: t ∧ PD.dig c = true := by
  unfold part
  rw [if_pos h, itoa_nat]
  obtain ⟨i1, i2⟩ := dec_dig n
  cases hd : Lib.decDigits n with
  | nil => exact absurd hd i1
  | cons c t => exact ⟨c, t ++ u ++ r, by simp, i2 c (by rw [hd]; simp)⟩
theorem part_zero {n : Nat} (h : ¬ 0 < n) (u : List UInt8) : part n u = [] := if_neg h
theorem dtext_head (m : Nat) (h : 0 < m) : ∃ c t, dtext m = c :: t ∧ PD.dig c = true := by
  unfold dtext
  simp only [List.append_assoc]
  by_cases h0 : 0 < m / 86400000
  · exact part_head h0 _ _
  · rw [part_zero h0, List.nil_append]
    by_cases h1 : 0 < m % 86400000 / 3600000
    · exact part_head h1 _ _
    · rw [part_zero h1, List.nil_append]
      by_cases h2 : 0 < m % 86400000 % 3600000 / 60000
      · exact part_head h2 _ _
      · rw [part_zero h2, List.nil_append]
        by_cases h3 : 0 < m % 86400000 % 3600000 % 60000 / 1000
        · exact part_head h3 _ _
        · rw [part_zero h3, List.nil_append]
          have h4 : 0 < m % 86400000 % 3600000 % 60000 % 1000 := by omega
          have := part_head h4 [109, 115] []
          rwa [List.append_nil] at this

theorem dtext_len (m : Nat) (h : m ≤ 9223372036854775807) : (dtext m).length ≤ 115 := by
  unfold dtext
  have a0 := part_len (n := m / 86400000) (u := [100]) (by omega) (by simp)
  have a1 := part_len (n := m % 86400000 / 3600000) (u := [104]) (by omega) (by simp)
  have a2 := part_len (n := m % 86400000 % 3600000 / 60000) (u := [109]) (by omega) (by simp)
  have a3 := part_len (n := m % 86400000 % 3600000 % 60000 / 1000) (u := [115]) (by omega) (by simp)
  have a4 := part_len (n := m % 86400000 % 3600000 % 60000 % 1000) (u := [109, 115]) (by omega) (by simp)
  simp only [List.length_append]
  omega

theorem new14 (n : Int) (w : World) : Calls Tryd.prog 14 #[.int .i64 n] w fun e w' => e = .returned (.agg #[.int .i64 n]) ∧ Below w.heap.size w w' := by
  go_enter Tryd.func14, Tryd.ntmps14
  go_wp2
  refine bodyPost_ret (v := .agg #[.int .i64 n]) (by simp [results, Tryd.results14, go_sem]) rfl ?_
  exact ⟨rfl, (Below.refl _ _).alloc (Nat.le_refl _) _⟩

theorem text10 (v : Int) (l : List UInt8) (w : World) (htab : Lib.TabIs Tryd.prog w "internal/strconv.uint64pow10" .u64 Lib.pow10Tab)
    (C : ∀ w, Lib.TabIs Tryd.prog w "internal/strconv.uint64pow10" .u64 Lib.pow10Tab → Calls Tryd.prog 15 #[.agg #[.int .i64 v]] w fun e w' => e = .returned (.string ⟨l.toArray⟩) ∧ Below w.heap.size w w') :
    Calls Tryd.prog 10 #[.int .i64 v] w fun e w' => e = .returned (.string ⟨l.toArray⟩) ∧ Below w.heap.size w w' := by
  have HT := Lib.hid (Lib.tabBelow_of_tabIs htab)
  have HC := Lib.hid C
  clear htab C
  go_enter Tryd.func10, Tryd.ntmps10
  go_wp2_with fail
  refine (new14 v _).mono ?_
  rintro e wa ⟨rfl, ba⟩
  have HA := Lib.hid ba
  clear ba
  simp only []
  go_wp2_with fail
  refine (HC.out _ (HT.out _ HA.out)).mono ?_
  rintro e wb ⟨rfl, bb⟩
  have HB := Lib.hid (HA.out.trans (bb.mono HA.out.size))
  clear bb
  simp only []
  go_wp2_with fail
  go_ret
  exact ⟨rfl, HB.out⟩

theorem bs_app (x y : ByteArray) : bs (x ++ y) = bs x ++ bs y := by
  unfold bs; simp

set_option maxHeartbeats 1000000 in
theorem law5 (n : Int) (w : World) (h0 : -9223372036854775808 ≤ n) (h1 : n ≤ 9223372036854775807) (htab : Lib.TabIs Tryd.prog w "internal/strconv.uint64pow10" .u64 Lib.pow10Tab) :
    Calls Tryd.prog 5 #[.int .i64 n] w fun e w' => e = .returned (.bool true) ∧ Below w.heap.size w w' := by
  by_cases hn : n ≤ 0
  · clear htab
    go_enter Tryd.func5, Tryd.ntmps5
    go_wp2
    go_ret
    exact ⟨rfl, Below.refl _ _⟩
  · obtain ⟨m, rfl⟩ : ∃ m : Nat, n = m := ⟨n.toNat, by omega⟩
    have hm : 0 < m := by omega
    have C1 := text10 m (dtext m) w htab (fun w ht => str15_pos m w hm (by omega) ht)
    have HT := Lib.hid (Lib.tabBelow_of_tabIs htab)
    have C2 := fun w ht => text10 (-(m : Int)) (45 :: dtext m) w ht (fun w ht => str15_neg m w hm (by omega) ht)
    obtain ⟨c, t, hct, hc⟩ := dtext_head m hm
    rw [hct] at C1 C2
    rw [dig_iff] at hc
    obtain ⟨hc1, hc2⟩ := hc
    obtain ⟨s, hs⟩ : ∃ s : ByteArray, s = ⟨(c :: t).toArray⟩ := ⟨_, rfl⟩
    obtain ⟨s2, hs2⟩ : ∃ s : ByteArray, s = ⟨(45 :: c :: t).toArray⟩ := ⟨_, rfl⟩
    have hsz : s.size = t.length + 1 := by rw [hs, sz_mk (c :: t)]; simp
    have hpos : 0 < s.size := by omega
    have hb : bs s = c :: t := by rw [hs]; rfl
    have hs0 : s[0] = c := by
      have := bs_head hpos
      rw [hb] at this
      injection this with this
      exact this.symm
    have hl := dtext_len m (by omega)
    rw [hct] at hl
    have hsl : s.size ≤ 200 := by rw [hsz]; simp at hl; omega
    have i0 := isE (x := s) (by omega)
    have g0 : ((s[0].toNat : Int) == 45) = false := beq_eq_false_iff_ne.2 (by rw [hs0]; omega)
    have g1 : ((s[0].toNat : Int) != 45) = true := by rw [bne_iff_ne]; rw [hs0]; omega
    have hb2 : bs s2 = 45 :: c :: t := by rw [hs2]; rfl
    have q : (s2.toList == (ByteArray.mk #[45] ++ s).toList) = true := by
      rw [bsE, bsE, bs_app, hb, hb2]
      simp [bs]
    have HQ : ∀ w, (Op.stringOp .add ⟨#[45]⟩ s).run Tryd.prog w = .ok (.string (⟨#[45]⟩ ++ s)) w := fun w => run_string_add_sum w _ _ (by rw [show (ByteArray.mk #[45]).size = 1 from rfl]; omega)
    rw [← hs] at C1
    rw [← hs2] at C2
    have HC1 := Lib.hid C1
    have HC2 := Lib.hid C2
    have hm' : ¬ (m : Int) ≤ 0 := hn
    have hp0 : (0 : Int) < (s.size : Int) := by omega
    clear C1 C2 htab hs hs2 hb hb2 hct hs0 hsz hl hn
    go_enter Tryd.func5, Tryd.ntmps5
    go_wp2_with fail
    refine HC1.out.mono ?_
    rintro e wa ⟨rfl, ba⟩
    have HA := Lib.hid ba
    clear ba
    simp only []
    go_wp2_with fail
    refine (HC2.out _ (HT.out _ HA.out)).mono ?_
    rintro e wb ⟨rfl, bb⟩
    have HB := Lib.hid (HA.out.trans (bb.mono HA.out.size))
    clear bb
    simp only []
    go_wp2_with fail
    go_ret
    exact ⟨rfl, HB.out⟩
end Go.Proofs.YthbdcekcockhfaaDoor.Dur
