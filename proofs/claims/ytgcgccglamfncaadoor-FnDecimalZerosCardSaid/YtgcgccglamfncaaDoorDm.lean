/-
  FnDecimalZeros: digits (7); the plain law.
-/
import Derived.Test.YtgcgccglamfncaaDoorDj
import Derived.OneCell
namespace Go.Proofs.YtgcgccglamfncaaDoor.Dec
open Go.RowKit

/-- the digits of a number, at least so many -/
structure Digs (n mn : Nat) (t : Bs) : Prop where
  all : allDig t
  v : PD.val t = n
  low : mn ≤ t.length
  cap : t.length ≤ mn ∨ 10 ^ (t.length - 1) ≤ n
def szZ : Value → Nat | .string x => x.size | _ => 0
def intZ : Value → Int | .int _ n => n | _ => 0
def dgt (m : Nat) : UInt8 := UInt8.ofNat (48 + m % 10)
theorem dgt_nat (m : Nat) : (dgt m).toNat = 48 + m % 10 := by
  have : (dgt m).toNat = (48 + m % 10) % 256 := UInt8.toNat_ofNat'
  omega
theorem dig_of (m : Nat) : PD.dig (dgt m) = true := by
  rw [dig_iff]
  have := dgt_nat m
  omega
theorem dv_of (m : Nat) : PD.dv (dgt m) = m % 10 := by
  unfold PD.dv
  have := dgt_nat m
  omega

theorem conv1 (wr : World) (m : Nat) : (convert 37 9 (.slice (some ⟨wr.heap.size, 0, none⟩) 1 1)).run Tryd.prog (wr.alloc (.cells #[.int .u8 (48 + (m : Int) % 10)] 5)) =
    .ok (.string ⟨[dgt m].toArray⟩) (wr.alloc (.cells #[.int .u8 (48 + (m : Int) % 10)] 5)) := by
  refine run_convert_bytes_back (wr.alloc (.cells #[.int .u8 (48 + (m : Int) % 10)] 5)) 37 9 5 ⟨wr.heap.size, 0, none⟩ 1 [dgt m] Tryd.underlying37 Tryd.underlying5 Tryd.underlying9 ?_
  intro j hj
  obtain rfl : j = 0 := by simp at hj; omega
  rw [show (⟨wr.heap.size, 0, none⟩ : Addr).add 0 = ⟨wr.heap.size, 0, none⟩ from rfl, cell_of_one (heap_alloc_new wr _)]
  have := dgt_nat m
  simp only [List.getElem_cons_zero]
  rw [this]
  congr 2
theorem ba_cons (c : UInt8) (t : List UInt8) : (ByteArray.mk [c].toArray ++ ByteArray.mk t.toArray) = ByteArray.mk (c :: t).toArray := by
  apply ByteArray.ext
  simp
theorem pow_len {n m L : Nat} (h : n = m * 10 ^ L + n % 10 ^ L) (hm : 0 < m) : 10 ^ L ≤ n := by
  have := Nat.le_mul_of_pos_left (10 ^ L) hm
  omega
theorem len_of_pow {n L : Nat} (h : 10 ^ L ≤ n) (hn : n < 18446744073709551616) : L < 20 := by
  rcases Nat.lt_or_ge L 20 with h' | h'
  · exact h'
  · have h1 : 10 ^ 20 ≤ 10 ^ L := Nat.pow_le_pow_right (by decide) h'
    omega
/-- the loop's relation -/
structure DRel (n mn m : Nat) (t : Bs) : Prop where
  all : allDig t
  v : n = m * 10 ^ t.length + PD.val t
  cap : t.length ≤ mn ∨ 10 ^ (t.length - 1) ≤ n
theorem DRel.next {n mn m : Nat} {t : Bs} (h : DRel n mn m t) (hc : 0 < m ∨ t.length < mn) : DRel n mn (m / 10) (dgt m :: t) := by
  refine ⟨?_, ?_, ?_⟩
  · intro c hc
    rcases List.mem_cons.1 hc with rfl | hc
    · exact dig_of m
    · exact h.all c hc
  · have e : PD.val (dgt m :: t) = (m % 10) * 10 ^ t.length + PD.val t := by
      have := val_append [dgt m] t
      rw [show PD.val [dgt m] = m % 10 by simp [PD.val, dv_of]] at this
      exact this
    rw [e, List.length_cons, Nat.pow_succ, Nat.mul_comm (10 ^ t.length) 10, ← Nat.mul_assoc, ← Nat.add_assoc, ← Nat.add_mul, show m / 10 * 10 + m % 10 = m by omega]
    exact h.v
  · rcases hc with hc | hc
    · refine .inr ?_
      rw [List.length_cons, Nat.add_sub_cancel, h.v]
      exact Nat.le_trans (Nat.le_mul_of_pos_left _ hc) (Nat.le_add_right _ _)
    · exact .inl hc
theorem DRel.done {n mn : Nat} {t : Bs} (h : DRel n mn 0 t) (hl : mn ≤ t.length) : Digs n mn t := ⟨h.all, by rw [h.v]; simp, hl, h.cap⟩
theorem DRel.len {n mn m : Nat} {t : Bs} (h : DRel n mn m t) (hn : n < 18446744073709551616) (hm : mn ≤ 4) : t.length ≤ 20 := by
  rcases h.cap with h | h
  · omega
  · have := len_of_pow h hn
    omega

set_option maxHeartbeats 1000000 in
theorem digits7 (n mn : Nat) (w : World) (hn : n < 18446744073709551616) (hmn : mn ≤ 4) : Calls Tryd.prog 7 #[.int .u64 n, .int .i64 mn] w fun e w' => (∃ t : Bs, e = .returned (.string ⟨t.toArray⟩) ∧ Digs n mn t ∧ t.length ≤ 20) ∧ Below w.heap.size w w' := by
  go_enter Tryd.func7, Tryd.ntmps7
  go_wp2
  go_loopw [0, 5] (fun m' s' wr => ∃ (m : Nat) (t : List UInt8), m' = .int .u64 m ∧ s' = .string ⟨t.toArray⟩ ∧ m ≤ n ∧ DRel n mn m t ∧ Below w.heap.size w wr) (fun m' s' _ => (intZ m').toNat + (4 - szZ s'))
  case atStart => exact ⟨n, [], rfl, rfl, Nat.le_refl _, ⟨fun c hc => by simp at hc, by simp [PD.val], .inl (Nat.zero_le _)⟩, Below.refl _ _⟩
  case round =>
    obtain ⟨m, t, rfl, rfl, hm, hd, hb⟩ := hrel
    have HB := Lib.hid hb
    have HD := Lib.hid hd
    have hl := hd.len hn hmn
    have hsz : (ByteArray.mk t.toArray).size = t.length := sz_mk t
    clear hb hd
    by_cases h0 : 0 < m
    · have h0' : (0 : Int) < (m : Int) := by omega
      have hcv := conv1 wr m
      go_wp2_with fail
      refine ⟨⟨m / 10, dgt m :: t, by go_num, ?_, ?_, ?_, ?_⟩, ?_⟩
      · first | rfl | exact congrArg Value.string (ba_cons _ _)
      · omega
      · exact HD.out.next (.inl h0)
      · exact HB.out.alloc HB.out.size _
      · simp [intZ, szZ]; omega
    · have hm0 : m = 0 := by omega
      clear hm h0
      subst hm0
      by_cases ht : t.length < mn
      · have ht' : (t.length : Int) < (mn : Int) := by omega
        have hcv : (convert 37 9 (.slice (some ⟨wr.heap.size, 0, none⟩) 1 1)).run Tryd.prog (wr.alloc (.cells #[.int .u8 48] 5)) = .ok (.string ⟨[dgt 0].toArray⟩) (wr.alloc (.cells #[.int .u8 48] 5)) := conv1 wr 0
        go_wp2_with fail
        refine ⟨⟨0, dgt 0 :: t, by go_num, ?_, ?_, ?_, ?_⟩, ?_⟩
        · first | rfl | exact congrArg Value.string (ba_cons _ _)
        · omega
        · exact HD.out.next (.inr ht)
        · exact HB.out.alloc HB.out.size _
        · simp [intZ, szZ, hsz]
          rw [show (ByteArray.mk #[dgt 0]).size = 1 from rfl]
          omega
      · have h1 : ¬ (t.length : Int) < (mn : Int) := by omega
        go_wp2_with fail
        go_ret
        exact ⟨⟨t, rfl, HD.out.done (by omega), hl⟩, HB.out⟩
end Go.Proofs.YtgcgccglamfncaaDoor.Dec
