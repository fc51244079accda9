/-
  WALKS of the reference's reader of durations: the numbers (lower, lowered, below, signedOr).
-/
import Derived.Test.YthbdcekcockhfaaDoorA
namespace Go.Proofs.YthbdcekcockhfaaDoor.Dur
open Go.RowKit

theorem lower30_ok (n : Int) (b : UInt8) (w : World) (h1 : -9223372036854775808 ≤ n) (h2 : n ≤ 0) (hb : 48 ≤ b.toNat) (hb' : b.toNat ≤ 57) (h : -9223372036854775808 ≤ n * 10 - ((b.toNat : Int) - 48)) :
    Calls Tryd.prog 30 #[.int .i64 n, .int .u8 b.toNat] w fun e w' => e = .returned (.tuple #[.int .i64 (n * 10 - ((b.toNat : Int) - 48)), .bool true]) ∧ w' = w := by
  have g1 : ¬ n < -922337203685477580 := by omega
  have g2 : ¬ n * 10 < -9223372036854775808 + ((b.toNat : Int) - 48) := by omega
  have q1 : (48 : Int) ≤ (b.toNat : Int) := by omega
  have q2 : (b.toNat : Int) ≤ 57 := by omega
  go_enter Tryd.func30, Tryd.ntmps30
  go_wp2
  go_ret2
  exact ⟨rfl, rfl⟩
theorem lower30_no (n : Int) (b : UInt8) (w : World) (h1 : -9223372036854775808 ≤ n) (h2 : n ≤ 0) (hb : 48 ≤ b.toNat) (hb' : b.toNat ≤ 57) (h : n * 10 - ((b.toNat : Int) - 48) < -9223372036854775808) :
    Calls Tryd.prog 30 #[.int .i64 n, .int .u8 b.toNat] w fun e w' => e = .returned (.tuple #[.int .i64 0, .bool false]) ∧ w' = w := by
  have q1 : (48 : Int) ≤ (b.toNat : Int) := by omega
  have q2 : (b.toNat : Int) ≤ 57 := by omega
  by_cases g1 : n < -922337203685477580
  · go_enter Tryd.func30, Tryd.ntmps30
    go_wp2
    go_ret2
    exact ⟨rfl, rfl⟩
  · have g2 : n * 10 < -9223372036854775808 + ((b.toNat : Int) - 48) := by omega
    go_enter Tryd.func30, Tryd.ntmps30
    go_wp2
    go_ret2
    exact ⟨rfl, rfl⟩

/-- the number that digits write, below nothing -/
def lowV (s : List UInt8) : Value := if PD.val s ≤ 9223372036854775808 then .tuple #[.int .i64 (-(PD.val s : Int)), .bool true] else .tuple #[.int .i64 0, .bool false]
theorem val_snoc (s : List UInt8) (c : UInt8) : PD.val (s ++ [c]) = PD.val s * 10 + PD.dv c := by simp [PD.val]
theorem val_take (s : List UInt8) (k : Nat) : PD.val (s.take k) ≤ PD.val s := by
  have h : s = s.take k ++ s.drop k := (List.take_append_drop k s).symm
  conv => rhs; rw [h]
  have : PD.val (s.take k ++ s.drop k) = PD.valF (PD.val (s.take k)) (s.drop k) := by unfold PD.val PD.valF; rw [List.foldl_append]
  rw [this]
  exact PD.valF_ge _ _

set_option maxHeartbeats 400000 in
theorem lowered21 (s : ByteArray) (w : World) (hs : s.size ≤ 4611686018427387904) (hd : ∀ c ∈ bs s, PD.dig c = true) :
    Calls Tryd.prog 21 #[.string s] w fun e w' => e = .returned (lowV (bs s)) ∧ w' = w := by
  go_enter Tryd.func21, Tryd.ntmps21
  go_wp2
  go_loop [4, 5, 6] (fun n ok i => ∃ k : Nat, k ≤ s.size ∧ i = .int .i64 k ∧
      ((PD.val ((bs s).take k) ≤ 9223372036854775808 ∧ n = .int .i64 (-(PD.val ((bs s).take k) : Int)) ∧ ok = .bool true) ∨ (¬ PD.val (bs s) ≤ 9223372036854775808 ∧ n = .int .i64 0 ∧ ok = .bool false))) (fun _ _ i => s.size - (intOf i).toNat)
  case atStart => exact ⟨0, Nat.zero_le _, rfl, .inl ⟨by simp [PD.val], rfl, rfl⟩⟩
  case round =>
    obtain ⟨k, hk, rfl, hd'⟩ := hrel
    have HD := Lib.hid hd
    clear hd
    rcases hd' with ⟨hv, rfl, rfl⟩ | ⟨hv, rfl, rfl⟩
    · by_cases hlt : k < s.size
      · have hget : (bs s).take (k + 1) = (bs s).take k ++ [s[k]] := by
          rw [List.take_add_one, List.getElem?_eq_getElem (by rw [bs_len]; exact hlt)]
          rfl
        have hdg := dig_iff.1 (HD.out s[k] (List.getElem_mem (by rw [Array.length_toList]; exact hlt)))
        have hvs := val_snoc ((bs s).take k) s[k]
        rw [← hget] at hvs
        have hvt := val_take (bs s) (k + 1)
        unfold PD.dv at hvs
        obtain ⟨q1, q2⟩ := hdg
        generalize PD.val ((bs s).take k) = V at *
        by_cases hok : PD.val ((bs s).take (k + 1)) ≤ 9223372036854775808
        · have C := fun w => lower30_ok (-(V : Int)) s[k] w (by omega) (by omega) q1 q2 (by omega)
          have HV := Lib.hid hvs
          have HOK := Lib.hid hok
          clear hvs hvt hok hget
          go_wp2_with (go_at_call 30; refine (C _).mono ?_; rintro e w' ⟨rfl, rfl⟩)
          go_round
          case rel => exact ⟨k + 1, by omega, by go_num, .inl ⟨HOK.out, by have := HV.out; congr 1; omega, rfl⟩⟩
          case measure => simp [intOf]; omega
        · have C := fun w => lower30_no (-(V : Int)) s[k] w (by omega) (by omega) q1 q2 (by omega)
          have HOK := Lib.hid (show ¬ PD.val (bs s) ≤ 9223372036854775808 by omega)
          clear hvs hvt hok hget
          go_wp2_with (go_at_call 30; refine (C _).mono ?_; rintro e w' ⟨rfl, rfl⟩)
          go_round
          case rel => exact ⟨k + 1, by omega, by go_num, .inr ⟨HOK.out, rfl, rfl⟩⟩
          case measure => simp [intOf]; omega
      · have ht : (bs s).take k = bs s := List.take_of_length_le (by rw [bs_len]; omega)
        rw [ht] at hv ⊢
        have HV := Lib.hid (show lowV (bs s) = .tuple #[.int .i64 (-(PD.val (bs s) : Int)), .bool true] by unfold lowV; rw [if_pos hv])
        clear hv ht
        go_wp2
        go_ret2
        rw [HV.out]
        exact ⟨rfl, rfl⟩
    · have HV := Lib.hid (show lowV (bs s) = .tuple #[.int .i64 0, .bool false] by unfold lowV; rw [if_neg hv])
      clear hv
      by_cases hlt : k < s.size
      · go_wp2
        go_ret2
        rw [HV.out]
        exact ⟨rfl, rfl⟩
      · go_wp2
        go_ret2
        rw [HV.out]
        exact ⟨rfl, rfl⟩

/-- what the reference gives for a sum and a number of a unit more -/
def belowV (N M k : Nat) : Value := if M * PD.size k ≤ 9223372036854775808 ∧ N + M * PD.size k ≤ 9223372036854775808 then .tuple #[.int .i64 (-((N + M * PD.size k : Nat) : Int)), .bool true] else .tuple #[.int .i64 0, .bool false]

theorem belowV_yes {N M k S : Nat} (hS : PD.size k = S) (h1 : M * S ≤ 9223372036854775808) (h2 : N + M * S ≤ 9223372036854775808) : belowV N M k = .tuple #[.int .i64 (-((N + M * S : Nat) : Int)), .bool true] := by
  subst hS; exact if_pos ⟨h1, h2⟩
theorem belowV_no {N M k S : Nat} (hS : PD.size k = S) (h : ¬ M * S ≤ 9223372036854775808 ∨ ¬ N + M * S ≤ 9223372036854775808) : belowV N M k = .tuple #[.int .i64 0, .bool false] := by
  subst hS; exact if_neg fun h' => h.elim (fun g => g h'.1) (fun g => g h'.2)

theorem below22 (N M k : Nat) (hk : k ≤ 4) (hN : N ≤ 9223372036854775808) (hM : M ≤ 9223372036854775808) (w : World) :
    Calls Tryd.prog 22 #[.int .i64 (-(N : Int)), .int .i64 (-(M : Int)), .int .i64 (PD.size k)] w fun e w' => e = .returned (belowV N M k) ∧ w' = w := by
  have hS : PD.size k = 86400000 ∨ PD.size k = 3600000 ∨ PD.size k = 60000 ∨ PD.size k = 1000 ∨ PD.size k = 1 := by
    match k, hk with
    | 0, _ => exact .inl rfl
    | 1, _ => exact .inr (.inl rfl)
    | 2, _ => exact .inr (.inr (.inl rfl))
    | 3, _ => exact .inr (.inr (.inr (.inl rfl)))
    | 4, _ => exact .inr (.inr (.inr (.inr rfl)))
  rcases hS with hS | hS | hS | hS | hS
  · have HS := Lib.hid hS
    rw [hS]
    clear hS
    by_cases h1 : M * 86400000 ≤ 9223372036854775808
    · have g1 : ¬ (-(M : Int)) < -106751991167 := by omega
      have g2 : -9223372036854775808 ≤ (-(M : Int)) * 86400000 := by omega
      by_cases h2 : N + M * 86400000 ≤ 9223372036854775808
      · have g3 : ¬ (-(N : Int)) < -9223372036854775808 - (-(M : Int)) * 86400000 := by omega
        have HV := Lib.hid (belowV_yes HS.out h1 h2)
        have HE := Lib.hid (show -(N : Int) + -(M : Int) * 86400000 = -((N + M * 86400000 : Nat) : Int) by omega)
        clear h1 h2
        go_enter Tryd.func22, Tryd.ntmps22
        go_wp2
        go_ret2
        rw [HV.out, HE.out]
        exact ⟨rfl, rfl⟩
      · have g3 : (-(N : Int)) < -9223372036854775808 - (-(M : Int)) * 86400000 := by omega
        have HV := Lib.hid (belowV_no HS.out (.inr h2))
        clear h1 h2
        go_enter Tryd.func22, Tryd.ntmps22
        go_wp2
        go_ret2
        rw [HV.out]
        exact ⟨rfl, rfl⟩
    · have g1 : (-(M : Int)) < -106751991167 := by omega
      have HV := Lib.hid (belowV_no (N := N) HS.out (.inl h1))
      clear h1
      go_enter Tryd.func22, Tryd.ntmps22
      go_wp2
      go_ret2
      rw [HV.out]
      exact ⟨rfl, rfl⟩
  · have HS := Lib.hid hS
    rw [hS]
    clear hS
    by_cases h1 : M * 3600000 ≤ 9223372036854775808
    · have g1 : ¬ (-(M : Int)) < -2562047788015 := by omega
      have g2 : -9223372036854775808 ≤ (-(M : Int)) * 3600000 := by omega
      by_cases h2 : N + M * 3600000 ≤ 9223372036854775808
      · have g3 : ¬ (-(N : Int)) < -9223372036854775808 - (-(M : Int)) * 3600000 := by omega
        have HV := Lib.hid (belowV_yes HS.out h1 h2)
        have HE := Lib.hid (show -(N : Int) + -(M : Int) * 3600000 = -((N + M * 3600000 : Nat) : Int) by omega)
        clear h1 h2
        go_enter Tryd.func22, Tryd.ntmps22
        go_wp2
        go_ret2
        rw [HV.out, HE.out]
        exact ⟨rfl, rfl⟩
      · have g3 : (-(N : Int)) < -9223372036854775808 - (-(M : Int)) * 3600000 := by omega
        have HV := Lib.hid (belowV_no HS.out (.inr h2))
        clear h1 h2
        go_enter Tryd.func22, Tryd.ntmps22
        go_wp2
        go_ret2
        rw [HV.out]
        exact ⟨rfl, rfl⟩
    · have g1 : (-(M : Int)) < -2562047788015 := by omega
      have HV := Lib.hid (belowV_no (N := N) HS.out (.inl h1))
      clear h1
      go_enter Tryd.func22, Tryd.ntmps22
      go_wp2
      go_ret2
      rw [HV.out]
      exact ⟨rfl, rfl⟩
  · have HS := Lib.hid hS
    rw [hS]
    clear hS
    by_cases h1 : M * 60000 ≤ 9223372036854775808
    · have g1 : ¬ (-(M : Int)) < -153722867280912 := by omega
      have g2 : -9223372036854775808 ≤ (-(M : Int)) * 60000 := by omega
      by_cases h2 : N + M * 60000 ≤ 9223372036854775808
      · have g3 : ¬ (-(N : Int)) < -9223372036854775808 - (-(M : Int)) * 60000 := by omega
        have HV := Lib.hid (belowV_yes HS.out h1 h2)
        have HE := Lib.hid (show -(N : Int) + -(M : Int) * 60000 = -((N + M * 60000 : Nat) : Int) by omega)
        clear h1 h2
        go_enter Tryd.func22, Tryd.ntmps22
        go_wp2
        go_ret2
        rw [HV.out, HE.out]
        exact ⟨rfl, rfl⟩
      · have g3 : (-(N : Int)) < -9223372036854775808 - (-(M : Int)) * 60000 := by omega
        have HV := Lib.hid (belowV_no HS.out (.inr h2))
        clear h1 h2
        go_enter Tryd.func22, Tryd.ntmps22
        go_wp2
        go_ret2
        rw [HV.out]
        exact ⟨rfl, rfl⟩
    · have g1 : (-(M : Int)) < -153722867280912 := by omega
      have HV := Lib.hid (belowV_no (N := N) HS.out (.inl h1))
      clear h1
      go_enter Tryd.func22, Tryd.ntmps22
      go_wp2
      go_ret2
      rw [HV.out]
      exact ⟨rfl, rfl⟩
  · have HS := Lib.hid hS
    rw [hS]
    clear hS
    by_cases h1 : M * 1000 ≤ 9223372036854775808
    · have g1 : ¬ (-(M : Int)) < -9223372036854775 := by omega
      have g2 : -9223372036854775808 ≤ (-(M : Int)) * 1000 := by omega
      by_cases h2 : N + M * 1000 ≤ 9223372036854775808
      · have g3 : ¬ (-(N : Int)) < -9223372036854775808 - (-(M : Int)) * 1000 := by omega
        have HV := Lib.hid (belowV_yes HS.out h1 h2)
        have HE := Lib.hid (show -(N : Int) + -(M : Int) * 1000 = -((N + M * 1000 : Nat) : Int) by omega)
        clear h1 h2
        go_enter Tryd.func22, Tryd.ntmps22
        go_wp2
        go_ret2
        rw [HV.out, HE.out]
        exact ⟨rfl, rfl⟩
      · have g3 : (-(N : Int)) < -9223372036854775808 - (-(M : Int)) * 1000 := by omega
        have HV := Lib.hid (belowV_no HS.out (.inr h2))
        clear h1 h2
        go_enter Tryd.func22, Tryd.ntmps22
        go_wp2
        go_ret2
        rw [HV.out]
        exact ⟨rfl, rfl⟩
    · have g1 : (-(M : Int)) < -9223372036854775 := by omega
      have HV := Lib.hid (belowV_no (N := N) HS.out (.inl h1))
      clear h1
      go_enter Tryd.func22, Tryd.ntmps22
      go_wp2
      go_ret2
      rw [HV.out]
      exact ⟨rfl, rfl⟩
  · have HS := Lib.hid hS
    rw [hS]
    clear hS
    by_cases h1 : M * 1 ≤ 9223372036854775808
    · have g1 : ¬ (-(M : Int)) < -9223372036854775808 := by omega
      have g2 : -9223372036854775808 ≤ (-(M : Int)) * 1 := by omega
      by_cases h2 : N + M * 1 ≤ 9223372036854775808
      · have g3 : ¬ (-(N : Int)) < -9223372036854775808 - (-(M : Int)) * 1 := by omega
        have HV := Lib.hid (belowV_yes HS.out h1 h2)
        have HE := Lib.hid (show -(N : Int) + -(M : Int) = -((N + M * 1 : Nat) : Int) by omega)
        clear h1 h2
        go_enter Tryd.func22, Tryd.ntmps22
        go_wp2
        go_ret2
        rw [HV.out, HE.out]
        exact ⟨rfl, rfl⟩
      · have g3 : (-(N : Int)) < -9223372036854775808 - (-(M : Int)) * 1 := by omega
        have HV := Lib.hid (belowV_no HS.out (.inr h2))
        clear h1 h2
        go_enter Tryd.func22, Tryd.ntmps22
        go_wp2
        go_ret2
        rw [HV.out]
        exact ⟨rfl, rfl⟩
    · have g1 : (-(M : Int)) < -9223372036854775808 := by omega
      have HV := Lib.hid (belowV_no (N := N) HS.out (.inl h1))
      clear h1
      go_enter Tryd.func22, Tryd.ntmps22
      go_wp2
      go_ret2
      rw [HV.out]
      exact ⟨rfl, rfl⟩
end Go.Proofs.YthbdcekcockhfaaDoor.Dur
