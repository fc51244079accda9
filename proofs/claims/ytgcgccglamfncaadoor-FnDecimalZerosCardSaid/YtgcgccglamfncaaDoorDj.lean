/-
  WALKS for FnDecimalParses: ParseDecimal (8) whole; the package impl's (5).
-/
import Derived.Test.YtgcgccglamfncaaDoorDi
import Derived.Deep.RegionWith
import Derived.OwnWalk
namespace Go.Proofs.YtgcgccglamfncaaDoor.Dec
open Go.RowKit

theorem dec8 (s : ByteArray) (w : World) (hs : s.size ≤ 1000000) (E : Env w) : Calls Tryd.prog 8 #[.string s] w fun e w' => DecEnd (pkgO (bs s)) e ∧ Below w.heap.size w w' := by
  have hl : (bs s).length = s.size := bs_len s
  by_cases hd : dot (bs s) < s.size
  · have h0 : 0 < s.size := by omega
    have hmin : minusHead (bs s) = (s[0] == 45) := by
      have := bs_get s 0 h0
      rw [List.drop_zero] at this
      rw [this]
      rfl
    cases hp : Lib.parseIntB 64 ((bs s).take (dot (bs s))) with
    | ok v =>
      cases hu : Lib.parseUintB 16 ((bs s).drop (dot (bs s) + 1)) with
      | ok u =>
        by_cases h4 : 4 < s.size - (dot (bs s) + 1)
        · have hO : pkgO (bs s) = none := by
            unfold pkgO
            rw [hl, if_pos hd, hp, hu]
            simp only []
            rw [if_pos h4]
          rw [hO]
          exact dec8_long s _ u v w hs E rfl hd hp hu h4
        · obtain ⟨b1, b2, _, b4⟩ := uB_inv 16 _ u hu
          have hlen : ((bs s).drop (dot (bs s) + 1)).length = s.size - (dot (bs s) + 1) := by rw [List.length_drop, hl]
          obtain ⟨f1, f2⟩ := frac_lt b2 (by rw [hlen]; omega)
          rw [← b4, hlen] at f1
          rw [← b4] at f2
          have hO : pkgO (bs s) = newO v (fracV u (4 - (s.size - (dot (bs s) + 1))) (minusHead (bs s))) := by
            unfold pkgO
            rw [hl, if_pos hd, hp, hu]
            simp only []
            rw [if_neg h4]
          rw [hO, hmin]
          obtain ⟨k, hk⟩ : ∃ k, 4 - (s.size - (dot (bs s) + 1)) = k := ⟨_, rfl⟩
          rw [hk] at f1 ⊢
          have hk4 : s.size - (dot (bs s) + 1) + k = 4 := by omega
          have hf0 : (0 : Int) ≤ ((u * pn k : Nat) : Int) := by omega
          have hf1 : ((u * pn k : Nat) : Int) < 10000 := by omega
          by_cases h45 : s[0] = 45
          · have e1 : (s[0] == 45) = true := beq_iff_eq.2 h45
            rw [e1]
            have e2 : fracV u k true = -((u * pn k : Nat) : Int) := rfl
            rw [e2]
            cases hN : newO v (-((u * pn k : Nat) : Int)) with
            | none => exact dec8_neg_no s _ u k v _ w hs E rfl hd hp hu hk4 (by simp) hf0 hf1 (by omega) h0 h45 hN
            | some n => exact dec8_neg_ok s _ u k v _ w hs E rfl hd hp hu hk4 (by simp) hf0 hf1 (by omega) h0 h45 n hN
          · have e1 : (s[0] == 45) = false := beq_eq_false_iff_ne.2 h45
            rw [e1]
            have e2 : fracV u k false = ((u * pn k : Nat) : Int) := rfl
            rw [e2]
            cases hN : newO v ((u * pn k : Nat) : Int) with
            | none => exact dec8_pos_no s _ u k v _ w hs E rfl hd hp hu hk4 (by simp) hf0 hf1 (by omega) h0 h45 hN
            | some n => exact dec8_pos_ok s _ u k v _ w hs E rfl hd hp hu hk4 (by simp) hf0 hf1 (by omega) h0 h45 n hN
      | «syntax» =>
        have hO : pkgO (bs s) = none := by
          unfold pkgO
          rw [hl, if_pos hd, hp, hu]
        rw [hO]
        exact dec8_nouint s _ v w hs E rfl hd hp (fun u h => by rw [hu] at h; cases h)
      | range =>
        have hO : pkgO (bs s) = none := by
          unfold pkgO
          rw [hl, if_pos hd, hp, hu]
        rw [hO]
        exact dec8_nouint s _ v w hs E rfl hd hp (fun u h => by rw [hu] at h; cases h)
    | «syntax» =>
      have hO : pkgO (bs s) = none := by
        unfold pkgO
        rw [hl, if_pos hd, hp]
      rw [hO]
      exact dec8_noint s _ w hs E rfl hd (fun u h => by rw [hp] at h; cases h)
    | range =>
      have hO : pkgO (bs s) = none := by
        unfold pkgO
        rw [hl, if_pos hd, hp]
      rw [hO]
      exact dec8_noint s _ w hs E rfl hd (fun u h => by rw [hp] at h; cases h)
  · have hO : pkgO (bs s) = none := by
      unfold pkgO
      rw [hl, if_neg hd]
    rw [hO]
    exact dec8_nodot s w hs E hd

theorem tenth9 (n : Int) (w : World) : Calls Tryd.prog 9 #[.agg #[.int .i64 n]] w fun e w' => e = .returned (.int .i64 n) ∧ Below w.heap.size w w' := by
  go_enter Tryd.func9, Tryd.ntmps9
  go_wp2
  go_ret
  exact ⟨rfl, (Below.refl _ _).alloc (Nat.le_refl _) _⟩

set_option maxHeartbeats 1000000 in
theorem impl5 (s : ByteArray) (w : World) (hs : s.size ≤ 1000000) (E : Env w) : Calls Tryd.prog 5 #[.string s] w fun e w' => e = .returned (optV (pkgO (bs s))) ∧ Below w.heap.size w w' := by
  have C := dec8 s w hs E
  cases ho : pkgO (bs s) with
  | some n =>
    rw [ho] at C
    have HV := Lib.hid (show optV (some n) = .tuple #[.int .i64 n, .bool true] from rfl)
    clear ho
    go_enter Tryd.func5, Tryd.ntmps5
    go_wp2_with fail
    refine C.mono ?_
    rintro e w1 ⟨he, hb1⟩
    obtain rfl : e = .returned (.tuple #[.agg #[.int .i64 n], .nilIface]) := he
    have HB := Lib.hid hb1
    clear hb1
    simp only []
    go_wp2_with fail
    go_region_with (go_at_call 9; refine (tenth9 n _).mono ?_; rintro e w2 ⟨rfl, hb2⟩)
    all_goals
      have HB2 := Lib.hid hb2
      clear hb2
      go_wp2_with fail
      go_ret2
      exact ⟨(congrArg Ending.returned HV.out).symm, (HB.out.trans ((((Below.refl _ _).alloc (Nat.le_refl _) _).mono HB.out.size).drew)).trans (HB2.out.mono (Nat.le_trans HB.out.size ((Below.refl w1.heap.size w1).alloc (Nat.le_refl _) (.cells #[.int .i64 n] 29)).size))⟩
  | none =>
    rw [ho] at C
    have HV := Lib.hid (show optV none = .tuple #[.int .i64 0, .bool false] from rfl)
    clear ho
    go_enter Tryd.func5, Tryd.ntmps5
    go_wp2_with fail
    refine C.mono ?_
    rintro e w1 ⟨⟨T, x, rfl⟩, hb1⟩
    have HB := Lib.hid hb1
    clear hb1
    simp only []
    go_wp2_with fail
    go_region_with (go_at_call 9; refine (tenth9 0 _).mono ?_; rintro e w2 ⟨rfl, hb2⟩)
    all_goals
      have HB2 := Lib.hid hb2
      clear hb2
      go_wp2_with fail
      go_ret2
      exact ⟨(congrArg Ending.returned HV.out).symm, (HB.out.trans ((((Below.refl _ _).alloc (Nat.le_refl _) _).mono HB.out.size).drew)).trans (HB2.out.mono (Nat.le_trans HB.out.size ((Below.refl w1.heap.size w1).alloc (Nat.le_refl _) (.cells #[.int .i64 0] 29)).size))⟩
end Go.Proofs.YtgcgccglamfncaaDoor.Dec
