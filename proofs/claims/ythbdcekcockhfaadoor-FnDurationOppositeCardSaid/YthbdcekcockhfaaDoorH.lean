/-
  FnDurationOrder: the plain law; the walks of digits (8) and units (6).
-/
import Derived.Test.YthbdcekcockhfaaDoorE
import Derived.OneCell
namespace Go.Proofs.YthbdcekcockhfaaDoor.Dur
open Go.RowKit

theorem low_dig {c : UInt8} (h : PD.dig c = true) : PD.low c = false := by
  rw [← Bool.not_eq_true, low_iff]; rw [dig_iff] at h; omega

theorem name_facts (i : Nat) (hi : i < 5) (r : List UInt8) : (bs (uname i) ++ r).dropWhile PD.dig = bs (uname i) ++ r ∧ (∀ c ∈ bs (uname i), PD.low c = true) ∧ PD.unitOf (bs (uname i)) = some i ∧ bs (uname i) ≠ [] ∧ (bs (uname i) ++ r).takeWhile PD.dig = [] := by
  match i, hi with
  | 0, _ => exact ⟨rfl, by decide, rfl, by decide, rfl⟩
  | 1, _ => exact ⟨rfl, by decide, rfl, by decide, rfl⟩
  | 2, _ => exact ⟨rfl, by decide, rfl, by decide, rfl⟩
  | 3, _ => exact ⟨rfl, by decide, rfl, by decide, rfl⟩
  | 4, _ => exact ⟨rfl, by decide, rfl, by decide, rfl⟩

/-- two parts in the wrong order, or one unit twice: no duration -/
theorem order_none (ta tb : List UInt8) (i k : Nat) (hi : i < 5) (hk : k < 5) (hki : k ≤ i) (ha : ta ≠ []) (hb : tb ≠ []) (da : ∀ c ∈ ta, PD.dig c = true) (db : ∀ c ∈ tb, PD.dig c = true) :
    durO (ta ++ bs (uname i) ++ tb ++ bs (uname k)) = none := by
  have hs : ta ++ bs (uname i) ++ tb ++ bs (uname k) = ta ++ (bs (uname i) ++ (tb ++ bs (uname k))) := by simp
  rw [hs]
  have hne : ta ++ (bs (uname i) ++ (tb ++ bs (uname k))) ≠ [] := by simp [ha]
  have hc : cut (ta ++ (bs (uname i) ++ (tb ++ bs (uname k)))) = (false, ta ++ (bs (uname i) ++ (tb ++ bs (uname k)))) := by
    refine cut_plain ?_
    cases ta with
    | nil => exact absurd rfl ha
    | cons c r =>
      have := da c (by simp)
      rw [dig_iff] at this
      intro e
      simp at e
      rw [e] at this
      exact absurd this.1 (by decide)
  unfold durO
  rw [hc]
  simp only [if_neg hne]
  obtain ⟨d1, l1, u1, n1, _⟩ := name_facts i hi (tb ++ bs (uname k))
  obtain ⟨d2, l2, u2, n2, _⟩ := name_facts k hk []
  rw [List.append_nil] at d2
  have e1 : (ta ++ (bs (uname i) ++ (tb ++ bs (uname k)))).dropWhile PD.dig = bs (uname i) ++ (tb ++ bs (uname k)) := by
    rw [List.dropWhile_append_of_pos da, d1]
  have tb1 : (tb ++ bs (uname k)).takeWhile PD.low = [] ∧ (tb ++ bs (uname k)).dropWhile PD.low = tb ++ bs (uname k) := by
    cases tb with
    | nil => exact absurd rfl hb
    | cons c r =>
      have := low_dig (db c (by simp))
      simp [this]
  have e2 : (bs (uname i) ++ (tb ++ bs (uname k))).takeWhile PD.low = bs (uname i) := by
    rw [List.takeWhile_append_of_pos l1, tb1.1, List.append_nil]
  have e3 : (bs (uname i) ++ (tb ++ bs (uname k))).dropWhile PD.low = tb ++ bs (uname k) := by
    rw [List.dropWhile_append_of_pos l1, tb1.2]
  have e4 : ((tb ++ bs (uname k)).dropWhile PD.dig).takeWhile PD.low = bs (uname k) := by
    rw [List.dropWhile_append_of_pos db, d2]
    have := List.takeWhile_append_of_pos (l₂ := []) l2
    simpa using this
  have hlen : 2 ≤ (ta ++ (bs (uname i) ++ (tb ++ bs (uname k)))).length := by
    have := List.length_pos_iff.2 ha
    have := List.length_pos_iff.2 hb
    simp; omega
  rw [PD.goP_spP ((ta ++ (bs (uname i) ++ (tb ++ bs (uname k)))).length + 1) _ (by omega)]
  have hsp : PD.spP ((ta ++ (bs (uname i) ++ (tb ++ bs (uname k)))).length + 1) 0 0 (ta ++ (bs (uname i) ++ (tb ++ bs (uname k)))) = none := by
    generalize hL : (ta ++ (bs (uname i) ++ (tb ++ bs (uname k)))).length = L at *
    obtain ⟨f, rfl⟩ : ∃ f, L = f + 1 := ⟨L - 1, by omega⟩
    rw [spP_step _ _ _ _ hne, e1, e2, u1, e3]
    simp only
    split
    · rfl
    · split
      · rfl
      · split
        · rfl
        · split
          · rfl
          · rw [spP_step _ _ _ _ (by simp [hb]), e4, u2]
            exact if_pos (.inr (by omega))
  rw [hsp]
  rfl

theorem one_h_m : durO [49, 104, 49, 109] = some 3660000 := by
  unfold durO
  rw [show cut [49, 104, 49, 109] = (false, [49, 104, 49, 109]) from rfl]
  simp only
  rw [if_neg (by decide), PD.goP_spP 5 _ (by decide)]
  decide

/-- the digits of a number: some, and nothing but digits -/
def DEnd (w : World) (e : Ending) (w' : World) : Prop := ∃ t : List UInt8, e = .returned (.string ⟨t.toArray⟩) ∧ t ≠ [] ∧ (∀ c ∈ t, PD.dig c = true) ∧ t.length ≤ 20 ∧ Below w.heap.size w w'

theorem len_of_div {n m L : Nat} (h : m = n / 10 ^ L) (hm : 0 < m) (hn : n < 18446744073709551616) : L < 20 := by
  rcases Nat.lt_or_ge L 20 with h' | h'
  · exact h'
  · have h1 : 10 ^ 20 ≤ 10 ^ L := Nat.pow_le_pow_right (by decide) h'
    have h2 : 10 ^ L ≤ n := by
      rcases Nat.lt_or_ge n (10 ^ L) with h3 | h3
      · rw [Nat.div_eq_of_lt h3] at h; omega
      · exact h3
    have h4 : n < 10 ^ 20 := Nat.lt_of_lt_of_le hn (by decide)
    omega
/-- a digit -/
def dgt (m : Nat) : UInt8 := UInt8.ofNat (48 + m % 10)
theorem dgt_nat (m : Nat) : (dgt m).toNat = 48 + m % 10 := by
  have : (dgt m).toNat = (48 + m % 10) % 256 := UInt8.toNat_ofNat'
  omega
theorem dig_of (m : Nat) : PD.dig (dgt m) = true := by
  rw [dig_iff]
  have := dgt_nat m
  omega

theorem conv1 (wr : World) (m : Nat) : (convert 42 9 (.slice (some ⟨wr.heap.size, 0, none⟩) 1 1)).run Tryd.prog (wr.alloc (.cells #[.int .u8 (48 + (m : Int) % 10)] 5)) =
    .ok (.string ⟨[dgt m].toArray⟩) (wr.alloc (.cells #[.int .u8 (48 + (m : Int) % 10)] 5)) := by
  refine run_convert_bytes_back (wr.alloc (.cells #[.int .u8 (48 + (m : Int) % 10)] 5)) 42 9 5 ⟨wr.heap.size, 0, none⟩ 1 [dgt m] Tryd.underlying42 Tryd.underlying5 Tryd.underlying9 ?_
  intro j hj
  obtain rfl : j = 0 := by simp at hj; omega
  rw [show (⟨wr.heap.size, 0, none⟩ : Addr).add 0 = ⟨wr.heap.size, 0, none⟩ from rfl, cell_of_one (heap_alloc_new wr _)]
  have := dgt_nat m
  simp only [List.getElem_cons_zero]
  rw [this]
  congr 2
theorem ba_cons (c : UInt8) (t : List UInt8) : (ByteArray.mk [c].toArray ++ ByteArray.mk t.toArray) = ByteArray.mk (c :: t).toArray := by
  apply ByteArray.ext
  simp

set_option maxHeartbeats 1000000 in
theorem digits8 (n : Nat) (w : World) (hn : n < 18446744073709551616) : Calls Tryd.prog 8 #[.int .u64 n, .int .i64 1] w (DEnd w) := by
  go_enter Tryd.func8, Tryd.ntmps8
  go_wp2
  go_loopw [0, 5] (fun m' s' wr => ∃ (m : Nat) (t : List UInt8), m' = .int .u64 m ∧ s' = .string ⟨t.toArray⟩ ∧ m = n / 10 ^ t.length ∧ (∀ c ∈ t, PD.dig c = true) ∧ t.length ≤ 20 ∧ Below w.heap.size w wr) (fun m' s' _ => (intOf m').toNat + (1 - szS s'))
  case atStart => exact ⟨n, [], rfl, rfl, by simp, by simp, by simp, Below.refl _ _⟩
  case round =>
    obtain ⟨m, t, rfl, rfl, hm, hd, hl, hb⟩ := hrel
    have HB := Lib.hid hb
    have HM := Lib.hid hm
    have HDD := Lib.hid hd
    have hlm : m < 18446744073709551616 := by rw [hm]; exact Nat.lt_of_le_of_lt (Nat.div_le_self _ _) hn
    have hsz : (ByteArray.mk t.toArray).size = t.length := sz_mk t
    clear hb hd
    by_cases h0 : 0 < m
    · have h0' : (0 : Int) < (m : Int) := by omega
      have hL := len_of_div hm h0 hn
      have hcv := conv1 wr m
      clear hm
      go_wp2_with fail
      refine ⟨⟨m / 10, dgt m :: t, by go_num, ?_, ?_, ?_, ?_, ?_⟩, ?_⟩
      · first | rfl | exact congrArg Value.string (ba_cons _ _)
      · rw [HM.out, Nat.div_div_eq_div_mul, List.length_cons, Nat.pow_succ]
      · intro c hc
        rcases List.mem_cons.1 hc with rfl | hc
        · exact dig_of m
        · exact HDD.out c hc
      · simp; omega
      · exact HB.out.alloc HB.out.size _
      · simp [intOf, szS]; omega
    · by_cases ht : t = []
      · subst ht
        have hm0 : m = 0 := by omega
        clear hm h0
        subst hm0
        have hcv : (convert 42 9 (.slice (some ⟨wr.heap.size, 0, none⟩) 1 1)).run Tryd.prog (wr.alloc (.cells #[.int .u8 48] 5)) = .ok (.string ⟨[dgt 0].toArray⟩) (wr.alloc (.cells #[.int .u8 48] 5)) := conv1 wr 0
        go_wp2_with fail
        refine ⟨⟨0, dgt 0 :: [], by go_num, ?_, ?_, ?_, ?_, ?_⟩, ?_⟩
        · first | rfl | exact congrArg Value.string (ba_cons _ _)
        · rw [List.length_cons, Nat.pow_succ, ← Nat.div_div_eq_div_mul, ← HM.out]
        · intro c hc
          rcases List.mem_cons.1 hc with rfl | hc
          · exact dig_of 0
          · cases hc
        · simp
        · exact HB.out.alloc HB.out.size _
        · simp [intOf, szS, ByteArray.size]
      · clear hm
        have h1 : 0 < t.length := List.length_pos_iff.2 ht
        go_wp2_with fail
        go_ret
        exact ⟨t, rfl, ht, HDD.out, hl, HB.out⟩

theorem units6 (w : World) : Calls Tryd.prog 6 #[] w fun e w' => e = .returned (.tuple #[.agg #[.string (uname 0), .string (uname 1), .string (uname 2), .string (uname 3), .string (uname 4)], .agg #[.int .i64 86400000, .int .i64 3600000, .int .i64 60000, .int .i64 1000, .int .i64 1]]) ∧ Below w.heap.size w w' := by
  go_enter Tryd.func6, Tryd.ntmps6
  go_wp2
  refine bodyPost_ret (v := .tuple #[.agg #[.string (uname 0), .string (uname 1), .string (uname 2), .string (uname 3), .string (uname 4)], .agg #[.int .i64 86400000, .int .i64 3600000, .int .i64 60000, .int .i64 1000, .int .i64 1]]) (by simp [results, Tryd.results6, go_sem, uname]) rfl ?_
  exact ⟨rfl, (((Below.refl _ _).alloc (Nat.le_refl _) _).alloc ((Below.refl w.heap.size w).alloc (Nat.le_refl _) _).size _)⟩
end Go.Proofs.YthbdcekcockhfaaDoor.Dur
