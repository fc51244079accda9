/-
  WALKS of the reference's reader of durations: small functions on bytes and numbers.
-/
import Derived.Test.YthbdcekcockhfaaDoorRows
import Derived.Test.YthbdcekcockhfaaDoorPD
import Derived.WalkKit
import Derived.WalkSpells
import Derived.WalkLawsBesides
import Derived.Deep.QuietTactic
import Derived.BigQuiet
import Derived.Lib.Hide
namespace Go.Proofs.YthbdcekcockhfaaDoor.Dur
open Go.RowKit

/-- the bytes of a string -/
def bs (s : ByteArray) : List UInt8 := s.data.toList
theorem bs_len (s : ByteArray) : (bs s).length = s.size := by cases s; rfl
theorem bs_nil (s : ByteArray) (h : s.size = 0) : bs s = [] := List.length_eq_zero_iff.1 (by rw [bs_len]; exact h)
theorem bsE (s : ByteArray) : s.toList = bs s := ByteArray.toList_eq s
theorem bs_mk (l : List UInt8) : bs (ByteArray.mk l.toArray) = l := rfl
theorem sz_mk (l : List UInt8) : (ByteArray.mk l.toArray).size = l.length := List.size_toArray
theorem bs_extract2 (y : ByteArray) (i j : Nat) : bs (y.extract i j) = ((bs y).drop i).take (j - i) := by
  cases y with
  | mk a => cases a with | mk l => simp only [bs, ByteArray.data_extract]; simp
theorem bs_extract (y : ByteArray) (j : Nat) : bs (y.extract j y.size) = (bs y).drop j := by
  rw [bs_extract2, List.take_of_length_le (by rw [List.length_drop, bs_len]; omega)]
theorem bs_take (y : ByteArray) (j : Nat) : bs (y.extract 0 j) = (bs y).take j := by
  rw [bs_extract2]; simp
theorem bs_get (s : ByteArray) (k : Nat) (h : k < s.size) : (bs s).drop k = s[k] :: (bs s).drop (k + 1) := by
  rw [List.drop_eq_getElem_cons (by rw [bs_len]; exact h)]
  congr 1

theorem dig_yes {b : UInt8} (h1 : 48 ≤ b.toNat) (h2 : b.toNat ≤ 57) : PD.dig b = true := by
  unfold PD.dig; simp [UInt8.le_iff_toNat_le]; omega
theorem dig_no {b : UInt8} (h : b.toNat < 48 ∨ 57 < b.toNat) : PD.dig b = false := by
  unfold PD.dig; simp [UInt8.le_iff_toNat_le]; omega
theorem dig_iff {b : UInt8} : PD.dig b = true ↔ 48 ≤ b.toNat ∧ b.toNat ≤ 57 := by
  unfold PD.dig; simp [UInt8.le_iff_toNat_le]
theorem low_iff {b : UInt8} : PD.low b = true ↔ 97 ≤ b.toNat ∧ b.toNat ≤ 122 := by
  unfold PD.low; simp [UInt8.le_iff_toNat_le]

theorem num29 (b : UInt8) (w : World) : Calls Tryd.prog 29 #[.int .u8 b.toNat] w fun e w' => e = .returned (.bool (PD.dig b)) ∧ w' = w := by
  by_cases h1 : 48 ≤ b.toNat
  · have h1' : (48 : Int) ≤ (b.toNat : Int) := by omega
    by_cases h2 : b.toNat ≤ 57
    · have h2' : (b.toNat : Int) ≤ 57 := by omega
      have HD := Lib.hid (dig_yes h1 h2)
      clear h1 h2
      go_enter Tryd.func29, Tryd.ntmps29
      go_wp2
      go_ret
      rw [HD.out]
      exact ⟨rfl, rfl⟩
    · have h2' : ¬ (b.toNat : Int) ≤ 57 := by omega
      have HD := Lib.hid (dig_no (b := b) (.inr (by omega)))
      clear h1 h2
      go_enter Tryd.func29, Tryd.ntmps29
      go_wp2
      go_ret
      rw [HD.out]
      exact ⟨rfl, rfl⟩
  · have h1' : ¬ (48 : Int) ≤ (b.toNat : Int) := by omega
    have HD := Lib.hid (dig_no (b := b) (.inl (by omega)))
    clear h1
    go_enter Tryd.func29, Tryd.ntmps29
    go_wp2
    go_ret
    rw [HD.out]
    exact ⟨rfl, rfl⟩

/-- how many digits stand at the head -/
def dEnd (s : List UInt8) : Nat := (s.takeWhile PD.dig).length
theorem dEnd_cons_yes {c : UInt8} {r : List UInt8} (h : PD.dig c = true) : dEnd (c :: r) = dEnd r + 1 := by simp [dEnd, h]
theorem dEnd_cons_no {c : UInt8} {r : List UInt8} (h : PD.dig c = false) : dEnd (c :: r) = 0 := by simp [dEnd, h]
theorem dEnd_le (s : List UInt8) : dEnd s ≤ s.length := by unfold dEnd; exact (List.takeWhile_sublist _).length_le

set_option maxHeartbeats 400000 in
theorem end18 (s : ByteArray) (w : World) (hs : s.size ≤ 4611686018427387904) :
    Calls Tryd.prog 18 #[.string s, .int .i64 0] w fun e w' => e = .returned (.int .i64 (dEnd (bs s))) ∧ w' = w := by
  go_enter Tryd.func18, Tryd.ntmps18
  go_wp2
  go_loop [1] (fun i => ∃ k : Nat, k ≤ s.size ∧ i = .int .i64 k ∧ k + dEnd ((bs s).drop k) = dEnd (bs s)) (fun i => s.size - (intOf i).toNat)
  case atStart => exact ⟨0, Nat.zero_le _, rfl, by simp⟩
  case round =>
    obtain ⟨k, hk, rfl, hd⟩ := hrel
    by_cases hlt : k < s.size
    · rw [bs_get s k hlt] at hd
      have C := fun w => num29 s[k] w
      cases hdg : PD.dig s[k] with
      | true =>
        rw [dEnd_cons_yes hdg] at hd
        rw [hdg] at C
        have HD := Lib.hid hd
        clear hd hdg
        go_wp2_with (go_at_call 29; refine (C _).mono ?_; rintro e w' ⟨rfl, rfl⟩)
        go_round
        case rel => exact ⟨k + 1, by omega, by go_num, by have := HD.out; omega⟩
        case measure => simp [intOf]; omega
      | false =>
        rw [dEnd_cons_no hdg] at hd
        rw [hdg] at C
        have HD := Lib.hid hd
        clear hd hdg
        go_wp2_with (go_at_call 29; refine (C _).mono ?_; rintro e w' ⟨rfl, rfl⟩)
        go_ret
        rw [← HD.out]
        exact ⟨rfl, rfl⟩
    · rw [List.drop_eq_nil_of_le (by rw [bs_len]; omega)] at hd
      have HD := Lib.hid hd
      clear hd
      go_wp2_with fail
      go_ret
      rw [← HD.out]
      exact ⟨rfl, rfl⟩

/-- how many small letters stand at the head -/
def lEnd (s : List UInt8) : Nat := (s.takeWhile PD.low).length
theorem lEnd_cons_yes {c : UInt8} {r : List UInt8} (h : PD.low c = true) : lEnd (c :: r) = lEnd r + 1 := by simp [lEnd, h]
theorem lEnd_cons_no {c : UInt8} {r : List UInt8} (h : PD.low c = false) : lEnd (c :: r) = 0 := by simp [lEnd, h]
theorem lEnd_le (s : List UInt8) : lEnd s ≤ s.length := by unfold lEnd; exact (List.takeWhile_sublist _).length_le

set_option maxHeartbeats 400000 in
theorem unit19 (s : ByteArray) (w : World) (hs : s.size ≤ 4611686018427387904) :
    Calls Tryd.prog 19 #[.string s] w fun e w' => e = .returned (.string (s.extract 0 (lEnd (bs s)))) ∧ w' = w := by
  go_enter Tryd.func19, Tryd.ntmps19
  go_wp2
  go_loop [3] (fun i => ∃ k : Nat, k ≤ s.size ∧ i = .int .i64 k ∧ k + lEnd ((bs s).drop k) = lEnd (bs s)) (fun i => s.size - (intOf i).toNat)
  case atStart => exact ⟨0, Nat.zero_le _, rfl, by simp⟩
  case round =>
    obtain ⟨k, hk, rfl, hd⟩ := hrel
    by_cases hlt : k < s.size
    · rw [bs_get s k hlt] at hd
      by_cases h1 : 97 ≤ s[k].toNat
      · have h1' : (97 : Int) ≤ (s[k].toNat : Int) := by omega
        by_cases h2 : s[k].toNat ≤ 122
        · have h2' : (s[k].toNat : Int) ≤ 122 := by omega
          rw [lEnd_cons_yes (low_iff.2 ⟨h1, h2⟩)] at hd
          have HD := Lib.hid hd
          clear hd h1 h2
          go_wp2
          go_round
          case rel => exact ⟨k + 1, by omega, by go_num, by have := HD.out; omega⟩
          case measure => simp [intOf]; omega
        · have h2' : ¬ (s[k].toNat : Int) ≤ 122 := by omega
          rw [lEnd_cons_no (by rw [← Bool.not_eq_true, low_iff]; omega)] at hd
          have HD := Lib.hid hd
          clear hd h1 h2
          go_wp2
          go_ret
          rw [← HD.out]
          exact ⟨rfl, rfl⟩
      · have h1' : ¬ (97 : Int) ≤ (s[k].toNat : Int) := by omega
        rw [lEnd_cons_no (by rw [← Bool.not_eq_true, low_iff]; omega)] at hd
        have HD := Lib.hid hd
        clear hd h1
        go_wp2
        go_ret
        rw [← HD.out]
        exact ⟨rfl, rfl⟩
    · rw [List.drop_eq_nil_of_le (by rw [bs_len]; omega)] at hd
      have HD := Lib.hid hd
      clear hd
      go_wp2
      go_ret
      rw [← HD.out]
      exact ⟨rfl, rfl⟩

/-- the place of a unit as the reference says it -/
def unitI (s : List UInt8) : Int := match PD.unitOf s with | some k => k | none => -1

theorem unit20 (s : ByteArray) (w : World) : Calls Tryd.prog 20 #[.string s] w fun e w' => e = .returned (.int .i64 (unitI (bs s))) ∧ w' = w := by
  have e0 := bsE s
  by_cases h0 : bs s = [100]
  · have HU := Lib.hid (show unitI (bs s) = 0 by rw [h0]; rfl)
    have b0 : (s.toList == [100]) = true := by rw [e0]; simpa using h0
    clear h0 e0
    go_enter Tryd.func20, Tryd.ntmps20
    go_wp2
    go_ret
    rw [HU.out]
    exact ⟨rfl, rfl⟩
  · have b0 : (s.toList == [100]) = false := by rw [e0]; simpa using h0
    by_cases h1 : bs s = [104]
    · have HU := Lib.hid (show unitI (bs s) = 1 by rw [h1]; rfl)
      have b1 : (s.toList == [104]) = true := by rw [e0]; simpa using h1
      clear h0 h1 e0
      go_enter Tryd.func20, Tryd.ntmps20
      go_wp2
      go_ret
      rw [HU.out]
      exact ⟨rfl, rfl⟩
    · have b1 : (s.toList == [104]) = false := by rw [e0]; simpa using h1
      by_cases h2 : bs s = [109]
      · have HU := Lib.hid (show unitI (bs s) = 2 by rw [h2]; rfl)
        have b2 : (s.toList == [109]) = true := by rw [e0]; simpa using h2
        clear h0 h1 h2 e0
        go_enter Tryd.func20, Tryd.ntmps20
        go_wp2
        go_ret
        rw [HU.out]
        exact ⟨rfl, rfl⟩
      · have b2 : (s.toList == [109]) = false := by rw [e0]; simpa using h2
        by_cases h3 : bs s = [115]
        · have HU := Lib.hid (show unitI (bs s) = 3 by rw [h3]; rfl)
          have b3 : (s.toList == [115]) = true := by rw [e0]; simpa using h3
          clear h0 h1 h2 h3 e0
          go_enter Tryd.func20, Tryd.ntmps20
          go_wp2
          go_ret
          rw [HU.out]
          exact ⟨rfl, rfl⟩
        · have b3 : (s.toList == [115]) = false := by rw [e0]; simpa using h3
          by_cases h4 : bs s = [109, 115]
          · have HU := Lib.hid (show unitI (bs s) = 4 by rw [h4]; rfl)
            have b4 : (s.toList == [109, 115]) = true := by rw [e0]; simpa using h4
            clear h0 h1 h2 h3 h4 e0
            go_enter Tryd.func20, Tryd.ntmps20
            go_wp2
            go_ret
            rw [HU.out]
            exact ⟨rfl, rfl⟩
          · have b4 : (s.toList == [109, 115]) = false := by rw [e0]; simpa using h4
            have HU := Lib.hid (show unitI (bs s) = -1 by unfold unitI PD.unitOf; rw [if_neg h0, if_neg h1, if_neg h2, if_neg h3, if_neg h4])
            clear h0 h1 h2 h3 h4 e0
            go_enter Tryd.func20, Tryd.ntmps20
            go_wp2
            go_ret
            rw [HU.out]
            exact ⟨rfl, rfl⟩

theorem size23 (k : Nat) (hk : k ≤ 4) (w : World) : Calls Tryd.prog 23 #[.int .i64 k] w fun e w' => e = .returned (.int .i64 (PD.size k)) ∧ w' = w := by
  match k, hk with
  | 0, _ => go_enter Tryd.func23, Tryd.ntmps23; go_wp2; go_ret; exact ⟨rfl, rfl⟩
  | 1, _ => go_enter Tryd.func23, Tryd.ntmps23; go_wp2; go_ret; exact ⟨rfl, rfl⟩
  | 2, _ => go_enter Tryd.func23, Tryd.ntmps23; go_wp2; go_ret; exact ⟨rfl, rfl⟩
  | 3, _ => go_enter Tryd.func23, Tryd.ntmps23; go_wp2; go_ret; exact ⟨rfl, rfl⟩
  | 4, _ => go_enter Tryd.func23, Tryd.ntmps23; go_wp2; go_ret; exact ⟨rfl, rfl⟩
end Go.Proofs.YthbdcekcockhfaaDoor.Dur
