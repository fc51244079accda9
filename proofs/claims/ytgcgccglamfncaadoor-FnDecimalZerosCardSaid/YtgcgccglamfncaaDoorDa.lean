/-
  WALKS of the reference's reader of decimals: digits (23, 16), the numbers below nothing (24, 17), the sign (25, 18). Printed by mkDa.py.
-/
import Derived.Test.YtgcgccglamfncaaDoorRows
import Derived.WalkKit
import Derived.WalkSpells
import Derived.WalkLawsBesides
import Derived.Deep.QuietTactic
import Derived.BigQuiet
import Derived.Lib.Hide
namespace Go.Proofs.YtgcgccglamfncaaDoor.PD
def dig (c : UInt8) : Bool := 48 ≤ c && c ≤ 57
def dv (c : UInt8) : Nat := c.toNat - 48
def valF (v : Nat) (s : List UInt8) : Nat := s.foldl (fun n c => n * 10 + dv c) v
def val (s : List UInt8) : Nat := s.foldl (fun n c => n * 10 + dv c) 0
theorem valF_ge (s : List UInt8) : ∀ v, v ≤ valF v s := by
  unfold valF
  induction s with
  | nil => intro v; exact Nat.le_refl _
  | cons c s ih => intro v; rw [List.foldl_cons]; exact Nat.le_trans (by omega) (ih _)
end Go.Proofs.YtgcgccglamfncaaDoor.PD
namespace Go.Proofs.YtgcgccglamfncaaDoor.Dec
open Go.RowKit
/-- the bytes of a string -/
def bs (s : ByteArray) : List UInt8 := s.data.toList
theorem bs_len (s : ByteArray) : (bs s).length = s.size := by cases s; rfl
theorem bs_nil (s : ByteArray) (h : s.size = 0) : bs s = [] := List.length_eq_zero_iff.1 (by rw [bs_len]; exact h)
theorem bsE (s : ByteArray) : s.toList = bs s := ByteArray.toList_eq s
theorem bs_mk (l : List UInt8) : bs (ByteArray.mk l.toArray) = l := rfl
theorem sz_mk (l : List UInt8) : (ByteArray.mk l.toArray).size = l.length := List.size_toArray
theorem bs_extract2 (y : ByteArray) (i j : Nat) : bs (y.extract i j) = ((bs y).drop i).take (j - i) := by
  cases y with
  | mk a => cases a with | mk l => simp only [bs, ByteArray.data_extract]; simp
theorem bs_extract (y : ByteArray) (j : Nat) : bs (y.extract j y.size) = (bs y).drop j := by
  rw [bs_extract2, List.take_of_length_le (by rw [List.length_drop, bs_len]; omega)]
theorem bs_take (y : ByteArray) (j : Nat) : bs (y.extract 0 j) = (bs y).take j := by
  rw [bs_extract2]; simp
theorem bs_get (s : ByteArray) (k : Nat) (h : k < s.size) : (bs s).drop k = s[k] :: (bs s).drop (k + 1) := by
  rw [List.drop_eq_getElem_cons (by rw [bs_len]; exact h)]
  congr 1

theorem dig_yes {b : UInt8} (h1 : 48 ≤ b.toNat) (h2 : b.toNat ≤ 57) : PD.dig b = true := by
  unfold PD.dig; simp [UInt8.le_iff_toNat_le]; omega
theorem dig_no {b : UInt8} (h : b.toNat < 48 ∨ 57 < b.toNat) : PD.dig b = false := by
  unfold PD.dig; simp [UInt8.le_iff_toNat_le]; omega
theorem dig_iff {b : UInt8} : PD.dig b = true ↔ 48 ≤ b.toNat ∧ b.toNat ≤ 57 := by
  unfold PD.dig; simp [UInt8.le_iff_toNat_le]
theorem num23 (b : UInt8) (w : World) : Calls Tryd.prog 23 #[.int .u8 b.toNat] w fun e w' => e = .returned (.bool (PD.dig b)) ∧ w' = w := by
  by_cases h1 : 48 ≤ b.toNat
  · have h1' : (48 : Int) ≤ (b.toNat : Int) := by omega
    by_cases h2 : b.toNat ≤ 57
    · have h2' : (b.toNat : Int) ≤ 57 := by omega
      have HD := Lib.hid (dig_yes h1 h2)
      clear h1 h2
      go_enter Tryd.func23, Tryd.ntmps23
      go_wp2
      go_ret
      rw [HD.out]
      exact ⟨rfl, rfl⟩
    · have h2' : ¬ (b.toNat : Int) ≤ 57 := by omega
      have HD := Lib.hid (dig_no (b := b) (.inr (by omega)))
      clear h1 h2
      go_enter Tryd.func23, Tryd.ntmps23
      go_wp2
      go_ret
      rw [HD.out]
      exact ⟨rfl, rfl⟩
  · have h1' : ¬ (48 : Int) ≤ (b.toNat : Int) := by omega
    have HD := Lib.hid (dig_no (b := b) (.inl (by omega)))
    clear h1
    go_enter Tryd.func23, Tryd.ntmps23
    go_wp2
    go_ret
    rw [HD.out]
    exact ⟨rfl, rfl⟩

/-- how many digits stand at the head -/
def dEnd (s : List UInt8) : Nat := (s.takeWhile PD.dig).length
theorem dEnd_cons_yes {c : UInt8} {r : List UInt8} (h : PD.dig c = true) : dEnd (c :: r) = dEnd r + 1 := by simp [dEnd, h]
theorem dEnd_cons_no {c : UInt8} {r : List UInt8} (h : PD.dig c = false) : dEnd (c :: r) = 0 := by simp [dEnd, h]
theorem dEnd_le (s : List UInt8) : dEnd s ≤ s.length := by unfold dEnd; exact (List.takeWhile_sublist _).length_le


set_option maxHeartbeats 400000 in
/-- where the digits from place i on end -/
theorem end16 (s : ByteArray) (i : Nat) (w : World) (hs : s.size ≤ 4611686018427387904) (hi : i ≤ s.size) :
    Calls Tryd.prog 16 #[.string s, .int .i64 i] w fun e w' => e = .returned (.int .i64 (i + dEnd ((bs s).drop i) : Nat)) ∧ w' = w := by
  obtain ⟨E, hE⟩ : ∃ E, i + dEnd ((bs s).drop i) = E := ⟨_, rfl⟩
  rw [hE]
  have HE := Lib.hid hE
  clear hE
  go_enter Tryd.func16, Tryd.ntmps16
  go_wp2
  go_loop [1] (fun j => ∃ k : Nat, k ≤ s.size ∧ j = .int .i64 k ∧ k + dEnd ((bs s).drop k) = E) (fun j => s.size - (intOf j).toNat)
  case atStart => exact ⟨i, hi, rfl, HE.out⟩
  case round =>
    obtain ⟨k, hk, rfl, hd⟩ := hrel
    by_cases hlt : k < s.size
    · rw [bs_get s k hlt] at hd
      have C := fun w => num23 s[k] w
      cases hdg : PD.dig s[k] with
      | true =>
        rw [dEnd_cons_yes hdg] at hd
        rw [hdg] at C
        have HD := Lib.hid hd
        clear hd hdg
        go_wp2_with (go_at_call 23; refine (C _).mono ?_; rintro e w' ⟨rfl, rfl⟩)
        go_round
        case rel => exact ⟨k + 1, by omega, by go_num, by have := HD.out; omega⟩
        case measure => simp [intOf]; omega
      | false =>
        rw [dEnd_cons_no hdg] at hd
        rw [hdg] at C
        have HD := Lib.hid hd
        clear hd hdg
        go_wp2_with (go_at_call 23; refine (C _).mono ?_; rintro e w' ⟨rfl, rfl⟩)
        go_ret
        rw [← HD.out]
        exact ⟨rfl, rfl⟩
    · rw [List.drop_eq_nil_of_le (by rw [bs_len]; omega)] at hd
      have HD := Lib.hid hd
      clear hd
      go_wp2_with fail
      go_ret
      rw [← HD.out]
      exact ⟨rfl, rfl⟩

theorem lower24_ok (n : Int) (b : UInt8) (w : World) (h1 : -9223372036854775808 ≤ n) (h2 : n ≤ 0) (hb : 48 ≤ b.toNat) (hb' : b.toNat ≤ 57) (h : -9223372036854775808 ≤ n * 10 - ((b.toNat : Int) - 48)) :
    Calls Tryd.prog 24 #[.int .i64 n, .int .u8 b.toNat] w fun e w' => e = .returned (.tuple #[.int .i64 (n * 10 - ((b.toNat : Int) - 48)), .bool true]) ∧ w' = w := by
  have g1 : ¬ n < -922337203685477580 := by omega
  have g2 : ¬ n * 10 < -9223372036854775808 + ((b.toNat : Int) - 48) := by omega
  have q1 : (48 : Int) ≤ (b.toNat : Int) := by omega
  have q2 : (b.toNat : Int) ≤ 57 := by omega
  go_enter Tryd.func24, Tryd.ntmps24
  go_wp2
  go_ret2
  exact ⟨rfl, rfl⟩
theorem lower24_no (n : Int) (b : UInt8) (w : World) (h1 : -9223372036854775808 ≤ n) (h2 : n ≤ 0) (hb : 48 ≤ b.toNat) (hb' : b.toNat ≤ 57) (h : n * 10 - ((b.toNat : Int) - 48) < -9223372036854775808) :
    Calls Tryd.prog 24 #[.int .i64 n, .int .u8 b.toNat] w fun e w' => e = .returned (.tuple #[.int .i64 0, .bool false]) ∧ w' = w := by
  have q1 : (48 : Int) ≤ (b.toNat : Int) := by omega
  have q2 : (b.toNat : Int) ≤ 57 := by omega
  by_cases g1 : n < -922337203685477580
  · go_enter Tryd.func24, Tryd.ntmps24
    go_wp2
    go_ret2
    exact ⟨rfl, rfl⟩
  · have g2 : n * 10 < -9223372036854775808 + ((b.toNat : Int) - 48) := by omega
    go_enter Tryd.func24, Tryd.ntmps24
    go_wp2
    go_ret2
    exact ⟨rfl, rfl⟩

/-- the number that digits write, below nothing -/
def lowV (s : List UInt8) : Value := if PD.val s ≤ 9223372036854775808 then .tuple #[.int .i64 (-(PD.val s : Int)), .bool true] else .tuple #[.int .i64 0, .bool false]
theorem val_snoc (s : List UInt8) (c : UInt8) : PD.val (s ++ [c]) = PD.val s * 10 + PD.dv c := by simp [PD.val]
theorem val_take (s : List UInt8) (k : Nat) : PD.val (s.take k) ≤ PD.val s := by
  have h : s = s.take k ++ s.drop k := (List.take_append_drop k s).symm
  conv => rhs; rw [h]
  have : PD.val (s.take k ++ s.drop k) = PD.valF (PD.val (s.take k)) (s.drop k) := by unfold PD.val PD.valF; rw [List.foldl_append]
  rw [this]
  exact PD.valF_ge _ _

set_option maxHeartbeats 400000 in
theorem lowered17 (s : ByteArray) (w : World) (hs : s.size ≤ 4611686018427387904) (hd : ∀ c ∈ bs s, PD.dig c = true) :
    Calls Tryd.prog 17 #[.string s] w fun e w' => e = .returned (lowV (bs s)) ∧ w' = w := by
  go_enter Tryd.func17, Tryd.ntmps17
  go_wp2
  go_loop [4, 5, 6] (fun n ok i => ∃ k : Nat, k ≤ s.size ∧ i = .int .i64 k ∧
      ((PD.val ((bs s).take k) ≤ 9223372036854775808 ∧ n = .int .i64 (-(PD.val ((bs s).take k) : Int)) ∧ ok = .bool true) ∨ (¬ PD.val (bs s) ≤ 9223372036854775808 ∧ n = .int .i64 0 ∧ ok = .bool false))) (fun _ _ i => s.size - (intOf i).toNat)
  case atStart => exact ⟨0, Nat.zero_le _, rfl, .inl ⟨by simp [PD.val], rfl, rfl⟩⟩
  case round =>
    obtain ⟨k, hk, rfl, hd'⟩ := hrel
    have HD := Lib.hid hd
    clear hd
    rcases hd' with ⟨hv, rfl, rfl⟩ | ⟨hv, rfl, rfl⟩
    · by_cases hlt : k < s.size
      · have hget : (bs s).take (k + 1) = (bs s).take k ++ [s[k]] := by
          rw [List.take_add_one, List.getElem?_eq_getElem (by rw [bs_len]; exact hlt)]
          rfl
        have hdg := dig_iff.1 (HD.out s[k] (List.getElem_mem (by rw [Array.length_toList]; exact hlt)))
        have hvs := val_snoc ((bs s).take k) s[k]
        rw [← hget] at hvs
        have hvt := val_take (bs s) (k + 1)
        unfold PD.dv at hvs
        obtain ⟨q1, q2⟩ := hdg
        generalize PD.val ((bs s).take k) = V at *
        by_cases hok : PD.val ((bs s).take (k + 1)) ≤ 9223372036854775808
        · have C := fun w => lower24_ok (-(V : Int)) s[k] w (by omega) (by omega) q1 q2 (by omega)
          have HV := Lib.hid hvs
          have HOK := Lib.hid hok
          clear hvs hvt hok hget
          go_wp2_with (go_at_call 24; refine (C _).mono ?_; rintro e w' ⟨rfl, rfl⟩)
          go_round
          case rel => exact ⟨k + 1, by omega, by go_num, .inl ⟨HOK.out, by have := HV.out; congr 1; omega, rfl⟩⟩
          case measure => simp [intOf]; omega
        · have C := fun w => lower24_no (-(V : Int)) s[k] w (by omega) (by omega) q1 q2 (by omega)
          have HOK := Lib.hid (show ¬ PD.val (bs s) ≤ 9223372036854775808 by omega)
          clear hvs hvt hok hget
          go_wp2_with (go_at_call 24; refine (C _).mono ?_; rintro e w' ⟨rfl, rfl⟩)
          go_round
          case rel => exact ⟨k + 1, by omega, by go_num, .inr ⟨HOK.out, rfl, rfl⟩⟩
          case measure => simp [intOf]; omega
      · have ht : (bs s).take k = bs s := List.take_of_length_le (by rw [bs_len]; omega)
        rw [ht] at hv ⊢
        have HV := Lib.hid (show lowV (bs s) = .tuple #[.int .i64 (-(PD.val (bs s) : Int)), .bool true] by unfold lowV; rw [if_pos hv])
        clear hv ht
        go_wp2
        go_ret2
        rw [HV.out]
        exact ⟨rfl, rfl⟩
    · have HV := Lib.hid (show lowV (bs s) = .tuple #[.int .i64 0, .bool false] by unfold lowV; rw [if_neg hv])
      clear hv
      by_cases hlt : k < s.size
      · go_wp2
        go_ret2
        rw [HV.out]
        exact ⟨rfl, rfl⟩
      · go_wp2
        go_ret2
        rw [HV.out]
        exact ⟨rfl, rfl⟩

def sgn (neg : Bool) (m : Nat) : Int := if neg then -(m : Int) else m
/-- a number of so many, with its sign; nothing where there is no such number -/
def sgnO (neg : Bool) (m : Nat) : Option Int := if m ≤ 9223372036854775807 ∨ (neg = true ∧ m = 9223372036854775808) then some (sgn neg m) else none
def optV (o : Option Int) : Value := match o with | some n => .tuple #[.int .i64 n, .bool true] | none => .tuple #[.int .i64 0, .bool false]

theorem signed25_yes (n : Int) (b : Bool) (w : World) (h1 : -9223372036854775808 ≤ n) (h2 : n ≤ 0) (h : b = true ∨ n ≠ -9223372036854775808) :
    Calls Tryd.prog 25 #[.int .i64 n, .bool b] w fun e w' => e = .returned (.tuple #[.int .i64 (if b then n else -n), .bool true]) ∧ w' = w := by
  cases b with
  | true =>
    go_enter Tryd.func25, Tryd.ntmps25
    go_wp2
    go_ret2
    exact ⟨rfl, rfl⟩
  | false =>
    have h0 : n ≠ -9223372036854775808 := by simpa using h
    have h3 : (n != -9223372036854775808) = true := by rw [bne_iff_ne]; exact h0
    clear h
    go_enter Tryd.func25, Tryd.ntmps25
    go_wp2
    go_ret2
    exact ⟨rfl, rfl⟩
theorem signed25_no (w : World) :
    Calls Tryd.prog 25 #[.int .i64 (-9223372036854775808), .bool false] w fun e w' => (∃ n, e = .returned (.tuple #[.int .i64 n, .bool false])) ∧ w' = w := by
  go_enter Tryd.func25, Tryd.ntmps25
  go_wp2
  go_ret2
  exact ⟨⟨_, rfl⟩, rfl⟩

theorem signedOr18 (m : Nat) (b : Bool) (w : World) (hm : m ≤ 9223372036854775808) :
    Calls Tryd.prog 18 #[.int .i64 (-(m : Int)), .bool b] w fun e w' => e = .returned (optV (sgnO b m)) ∧ w' = w := by
  by_cases h : m ≤ 9223372036854775807 ∨ (b = true ∧ m = 9223372036854775808)
  · have HV := Lib.hid (show optV (sgnO b m) = .tuple #[.int .i64 (if b then -(m : Int) else -(-(m : Int))), .bool true] by unfold sgnO; rw [if_pos h]; cases b <;> simp [optV, sgn])
    have C := fun w => signed25_yes (-(m : Int)) b w (by omega) (by omega) (h.elim (fun h => .inr (by omega)) (fun h => .inl h.1))
    obtain ⟨q, hq⟩ : ∃ q : Int, (if b then -(m : Int) else -(-(m : Int))) = q := ⟨_, rfl⟩
    rw [hq] at HV C
    clear h hq
    go_enter Tryd.func18, Tryd.ntmps18
    go_wp2_with fail
    refine (C _).mono ?_
    rintro e w' ⟨rfl, rfl⟩
    simp only []
    go_wp2_with fail
    go_ret2
    rw [HV.out]
    exact ⟨rfl, rfl⟩
  · have hb : b = false := by
      cases b
      · rfl
      · rcases Nat.lt_or_ge m 9223372036854775808 with h' | h'
        · exact absurd (.inl (by omega)) h
        · exact absurd (.inr ⟨rfl, by omega⟩) h
    subst hb
    have h7 : ¬ m ≤ 9223372036854775807 := fun x => h (.inl x)
    obtain rfl : m = 9223372036854775808 := by omega
    have C := signed25_no
    go_enter Tryd.func18, Tryd.ntmps18
    go_wp2_with fail
    refine (C _).mono ?_
    rintro e w' ⟨⟨n, rfl⟩, rfl⟩
    simp only []
    go_wp2_with fail
    go_ret2
    exact ⟨rfl, rfl⟩
end Go.Proofs.YtgcgccglamfncaaDoor.Dec
