/-
  WALKS of the reference's reader of durations: duration (13), ParseDuration (9). Printed by mkDurD.py.
-/
import Derived.Test.YthbdcekcockhfaaDoorC
namespace Go.Proofs.YthbdcekcockhfaaDoor.Dur
open Go.RowKit

def szS : Value → Nat | .string x => x.size | _ => 0

theorem sp_a {f u N : Nat} {x : List UInt8} (hx : x ≠ []) (h : x.takeWhile PD.dig = []) : PD.spP (f + 1) u N x = none := by
  rw [spP_step f u N x hx]; split
  · rfl
  · rw [if_pos (.inl h)]
theorem sp_b {f u N : Nat} {x : List UInt8} (hx : x ≠ []) (h : unitI ((x.dropWhile PD.dig).takeWhile PD.low) < u) : PD.spP (f + 1) u N x = none := by
  rw [spP_step f u N x hx]; unfold unitI at h; split at h
  · rename_i k hk
    rw [hk]
    exact if_pos (.inr (by omega))
  · rename_i hk
    rw [hk]
theorem sp_c {f u N k : Nat} {x : List UInt8} (hx : x ≠ []) (hk : PD.unitOf ((x.dropWhile PD.dig).takeWhile PD.low) = some k) (h0 : x.takeWhile PD.dig ≠ []) (hu : u ≤ k) : PD.spP (f + 1) u N x =
    if PD.lim < PD.val (x.takeWhile PD.dig) then none else if PD.lim < PD.val (x.takeWhile PD.dig) * PD.size k then none
      else if PD.lim < N + PD.val (x.takeWhile PD.dig) * PD.size k then none else PD.spP f (k + 1) (N + PD.val (x.takeWhile PD.dig) * PD.size k) ((x.dropWhile PD.dig).dropWhile PD.low) := by
  rw [spP_step f u N x hx, hk]
  exact if_neg (by rintro (h | h); exact h0 h; omega)
theorem unit_cases (s : List UInt8) (u : Nat) : unitI s < u ∨ ∃ k : Nat, PD.unitOf s = some k ∧ unitI s = k ∧ u ≤ k ∧ k ≤ 4 := by
  unfold unitI
  cases h : PD.unitOf s with
  | none => exact .inl (by simp only []; omega)
  | some k =>
    have := PD.unitOf_le h
    by_cases hu : k < u
    · exact .inl (by simp only []; omega)
    · exact .inr ⟨k, rfl, rfl, by omega, this⟩
theorem bs_ne {x : ByteArray} (h : x.size ≠ 0) : bs x ≠ [] := fun e => h (by rw [← bs_len, e]; rfl)
theorem isE {x : ByteArray} (h : x.size ≠ 0) : x.toList.isEmpty = false := by
  rw [bsE]; cases hb : bs x with
  | nil => exact absurd hb (bs_ne h)
  | cons => rfl
theorem isE0 {x : ByteArray} (h : x.size = 0) : x.toList.isEmpty = true := by
  rw [bsE, bs_nil x h]; rfl
theorem ddrop (x : ByteArray) : bs (x.extract (dEnd (bs x)) x.size) = (bs x).dropWhile PD.dig := by rw [bs_extract, dEnd, dropWhile_drop]
theorem dtake (x : ByteArray) : bs (x.extract 0 (dEnd (bs x))) = (bs x).takeWhile PD.dig := by rw [bs_take, dEnd, takeWhile_take]
theorem ltake (x : ByteArray) : bs ((x.extract (dEnd (bs x)) x.size).extract 0 (lEnd (bs (x.extract (dEnd (bs x)) x.size)))) = ((bs x).dropWhile PD.dig).takeWhile PD.low := by
  rw [bs_take, ddrop, lEnd, takeWhile_take]
theorem ldrop (x : ByteArray) (L : Nat) (h : L = lEnd ((bs x).dropWhile PD.dig)) : bs (x.extract (dEnd (bs x) + L) x.size) = ((bs x).dropWhile PD.dig).dropWhile PD.low := by
  rw [bs_extract, ← List.drop_drop, h, ← dropWhile_drop PD.low, ← dropWhile_drop PD.dig]; rfl
theorem dEnd_size (x : ByteArray) : dEnd (bs x) ≤ x.size := by rw [← bs_len]; exact dEnd_le _
theorem ln_size (x : ByteArray) (E L : Nat) (h : E ≤ x.size) (hL : L ≤ x.size - E) : ((x.extract E x.size).extract 0 L).size = L := by
  simp only [ByteArray.size_extract]; omega
theorem tw_ne {x : ByteArray} (h : dEnd (bs x) ≠ 0) : (bs x).takeWhile PD.dig ≠ [] := fun e => h (by unfold dEnd; rw [e]; rfl)
theorem tw_nil {x : ByteArray} (h : dEnd (bs x) = 0) : (bs x).takeWhile PD.dig = [] := List.length_eq_zero_iff.1 h
theorem extract_size (x : ByteArray) (j : Nat) (h : j ≤ x.size) : (x.extract j x.size).size = x.size - j := by
  simp only [ByteArray.size_extract]; omega


theorem cut_nil : cut [] = (false, []) := rfl
theorem cut_minus (r : List UInt8) : cut (45 :: r) = (true, r) := rfl
theorem cut_plain {s : List UInt8} (h : s.head? ≠ some 45) : cut s = (false, s) := by
  unfold cut; split
  · exact absurd rfl h
  · rfl
theorem durV_cut0 {s : List UInt8} {b : Bool} (h : cut s = (b, [])) : durV s = .tuple #[.int .i64 0, .bool false] := by
  apply durV_none; unfold durO; rw [h]; rfl
theorem bs_head {s : ByteArray} (h : 0 < s.size) : bs s = s[0] :: (bs s).drop 1 := by
  have := bs_get s 0 h; rw [List.drop_zero] at this; exact this
theorem byte45 {b : UInt8} (h : b.toNat = 45) : b = 45 := UInt8.toNat_inj.1 h

/-- an empty text; a minus alone -/
theorem dur13_empty (s : ByteArray) (w : World) (hs : s.size = 0) : Calls Tryd.prog 13 #[.string s] w fun e w' => e = .returned (durV (bs s)) ∧ w' = w := by
  have i0 := isE0 hs
  have HV := Lib.hid (durV_cut0 (s := bs s) (b := false) (by rw [bs_nil s hs]; rfl))
  go_enter Tryd.func13, Tryd.ntmps13
  go_wp2
  go_ret2
  rw [HV.out]
  exact ⟨rfl, rfl⟩
theorem dur13_minus (s : ByteArray) (w : World) (hs : s.size = 1) (h : (s[0]'(by omega)).toNat = 45) : Calls Tryd.prog 13 #[.string s] w fun e w' => e = .returned (durV (bs s)) ∧ w' = w := by
  have i0 := isE (x := s) (by omega)
  have i1 := isE0 (x := s.extract 1 s.size) (by rw [extract_size s 1 (by omega)]; omega)
  have hc : cut (bs s) = (true, []) := by
    rw [bs_head (s := s) (by omega), byte45 h, cut_minus, List.drop_eq_nil_of_le (by rw [bs_len]; omega)]
  have HV := Lib.hid (durV_cut0 hc)
  clear hc
  have hb : ((s[0]'(by omega)).toNat : Int) = 45 := by omega
  have gb : (((s[0]'(by omega)).toNat : Int) == 45) = true := beq_iff_eq.2 hb
  rw [hs] at i1
  go_enter Tryd.func13, Tryd.ntmps13
  go_wp2
  go_ret2
  rw [HV.out]
  exact ⟨rfl, rfl⟩

set_option maxHeartbeats 2000000 in
theorem dur13_neg (s : ByteArray) (w : World) (hs1 : s.size ≤ 4611686018427387904) (hs : 1 < s.size) (h : (s[0]'(by omega)).toNat = 45) : Calls Tryd.prog 13 #[.string s] w fun e w' => e = .returned (durV (bs s)) ∧ w' = w := by
  have i0 := isE (x := s) (by omega)
  have i1 := isE (x := s.extract 1 s.size) (by rw [extract_size s 1 (by omega)]; omega)
  obtain ⟨T, hT⟩ : ∃ T, T = (bs s).drop 1 := ⟨_, rfl⟩
  have hTl : T.length = s.size - 1 := by rw [hT, List.length_drop, bs_len]
  have HC := Lib.hid (show cut (bs s) = (true, T) by rw [bs_head (s := s) (by omega), byte45 h, cut_minus, hT])
  have HT := Lib.hid (show T ≠ [] from fun e => by rw [e] at hTl; simp at hTl; omega)
  have HX := Lib.hid (show (s.extract 1 s.size).size ≤ 4611686018427387904 ∧ SpRel T (s.extract 1 s.size) 0 0 from
    ⟨by rw [extract_size s 1 (by omega)]; omega, by omega, by omega, T.length + 1, by rw [extract_size s 1 (by omega)]; omega, by rw [bs_extract, ← hT]⟩)
  clear hT hTl
  have gb : (((s[0]'(by omega)).toNat : Int) == 45) = true := beq_iff_eq.2 (by omega)
  clear h
  go_enter Tryd.func13, Tryd.ntmps13
  go_wp2
  go_loop [0, 5, 6] (fun s n u' => ∃ (x : ByteArray) (N u : Nat), s = .string x ∧ n = .int .i64 (-(N : Int)) ∧ u' = .int .i64 u ∧ x.size ≤ 4611686018427387904 ∧ SpRel T x N u) (fun s _ _ => szS s)
  case atStart => exact ⟨_, 0, 0, rfl, rfl, rfl, HX.out.1, HX.out.2⟩
  case round =>
    obtain ⟨x, N, u, rfl, rfl, rfl, hxs, hu5, hN, f, hf, hsp⟩ := hrel
    by_cases hx0 : x.size = 0
    · have i0 := isE0 hx0
      rw [bs_nil x hx0, show f = (f - 1) + 1 by omega, show PD.spP (f - 1 + 1) u N [] = some N by unfold PD.spP; exact if_pos rfl] at hsp
      by_cases hm : N = 9223372036854775808
      · have HV := Lib.hid (rel_none HC.out HT.out (.inr (hm ▸ hsp.symm)))
        subst hm
        clear hsp hf hx0
        go_wp2_with fail
        go_ret2
        rw [HV.out]
        exact ⟨rfl, rfl⟩
      · have HV := Lib.hid (rel_some HC.out HT.out hsp.symm hm)
        have C := fun w => signed24 (-(N : Int)) true w (by omega) (by omega)
        have g : ((-(N : Int)) == -9223372036854775808) = false := beq_eq_false_iff_ne.2 (by omega)
        clear hsp hf hx0 hm
        go_wp2_with (go_at_call 24; refine (C _).mono ?_; rintro e w' ⟨rfl, rfl⟩)
        go_ret2
        rw [HV.out]
        exact ⟨by simp [sgn], rfl⟩
    · have i0 := isE hx0
      have hne := bs_ne hx0
      obtain ⟨f, rfl⟩ : ∃ f', f = f' + 1 := ⟨f - 1, by omega⟩
      have C18 := fun w => end18 x w hxs
      have hE := dEnd_size x
      have C19 := fun w => unit19 (x.extract (dEnd (bs x)) x.size) w (by rw [extract_size x _ hE]; omega)
      have C20 := fun w => unit20 ((x.extract (dEnd (bs x)) x.size).extract 0 (lEnd (bs (x.extract (dEnd (bs x)) x.size)))) w
      rw [ltake] at C20
      have hdd := ddrop x
      have hL : lEnd (bs (x.extract (dEnd (bs x)) x.size)) = lEnd ((bs x).dropWhile PD.dig) := by rw [hdd]
      have hLE : lEnd (bs (x.extract (dEnd (bs x)) x.size)) ≤ x.size - dEnd (bs x) := by
        have := lEnd_le (bs (x.extract (dEnd (bs x)) x.size)); rw [bs_len, extract_size x _ hE] at this; exact this
      have hLS := ln_size x _ _ hE hLE
      by_cases h0 : dEnd (bs x) = 0
      · have HV := Lib.hid (rel_none HC.out HT.out (.inl (hsp.symm.trans (sp_a hne (tw_nil h0)))))
        have hdt := dtake x
        have g : (((dEnd (bs x) : Nat) : Int) == 0) = true := beq_iff_eq.2 (by omega)
        generalize lEnd (bs (x.extract (dEnd (bs x)) x.size)) = L at *
        generalize unitI (((bs x).dropWhile PD.dig).takeWhile PD.low) = U at *
        generalize dEnd (bs x) = E at *
        clear hsp hf hne h0 hdt hdd hL hx0
        go_wp2_with (first | (go_at_call 18; refine (C18 _).mono ?_; rintro e w' ⟨rfl, rfl⟩) | (go_at_call 19; refine (C19 _).mono ?_; rintro e w' ⟨rfl, rfl⟩) | (go_at_call 20; refine (C20 _).mono ?_; rintro e w' ⟨rfl, rfl⟩))
        go_ret2
        rw [HV.out]
        exact ⟨rfl, rfl⟩
      · have g : (((dEnd (bs x) : Nat) : Int) == 0) = false := beq_eq_false_iff_ne.2 (by omega)
        rcases unit_cases (((bs x).dropWhile PD.dig).takeWhile PD.low) u with hU | ⟨k, hk, hkI, huk, hk4⟩
        · have HV := Lib.hid (rel_none HC.out HT.out (.inl (hsp.symm.trans (sp_b hne hU))))
          generalize lEnd (bs (x.extract (dEnd (bs x)) x.size)) = L at *
          generalize unitI (((bs x).dropWhile PD.dig).takeWhile PD.low) = U at *
          generalize dEnd (bs x) = E at *
          clear hsp hf hne h0 hdd hL hx0
          go_wp2_with (first | (go_at_call 18; refine (C18 _).mono ?_; rintro e w' ⟨rfl, rfl⟩) | (go_at_call 19; refine (C19 _).mono ?_; rintro e w' ⟨rfl, rfl⟩) | (go_at_call 20; refine (C20 _).mono ?_; rintro e w' ⟨rfl, rfl⟩))
          go_ret2
          rw [HV.out]
          exact ⟨rfl, rfl⟩
        · have hsc := sp_c (f := f) (N := N) hne hk (tw_ne h0) huk
          rw [hsc] at hsp
          rw [hkI] at C20
          have gu : ¬ ((k : Int) < u) := by omega
          have hdt := dtake x
          have hdl := ldrop x _ hL
          have C21 := fun w => lowered21 (x.extract 0 (dEnd (bs x))) w (by simp only [ByteArray.size_extract]; omega) (by rw [hdt]; exact fun c hc => PD.takeWhile_all PD.dig (bs x) c hc)
          rw [hdt] at C21
          by_cases hv : PD.val ((bs x).takeWhile PD.dig) ≤ 9223372036854775808
          · rw [show lowV ((bs x).takeWhile PD.dig) = .tuple #[.int .i64 (-(PD.val ((bs x).takeWhile PD.dig) : Int)), .bool true] from if_pos hv] at C21
            have C23 := fun w => size23 k hk4 w
            have C22 := fun w => below22 N (PD.val ((bs x).takeWhile PD.dig)) k hk4 hN hv w
            have hS := PD.size_pos k
            rw [if_neg (show ¬ PD.lim < PD.val ((bs x).takeWhile PD.dig) by unfold PD.lim; omega)] at hsp
            generalize PD.val ((bs x).takeWhile PD.dig) = M at *
            by_cases hb : M * PD.size k ≤ 9223372036854775808 ∧ N + M * PD.size k ≤ 9223372036854775808
            · rw [show belowV N M k = _ from if_pos hb] at C22
              rw [if_neg (by unfold PD.lim; omega), if_neg (by unfold PD.lim; omega)] at hsp
              have hrel : SpRel T (x.extract (dEnd (bs x) + lEnd (bs (x.extract (dEnd (bs x)) x.size))) x.size) (N + M * PD.size k) (k + 1) :=
                ⟨by omega, hb.2, f, by rw [extract_size x _ (by omega)]; omega, by rw [hdl]; exact hsp⟩
              have HR := Lib.hid hrel
              have HZ := Lib.hid (extract_size x (dEnd (bs x) + lEnd (bs (x.extract (dEnd (bs x)) x.size))) (by omega))
              generalize lEnd (bs (x.extract (dEnd (bs x)) x.size)) = L at *
              have hN2 := hb.2
              generalize N + M * PD.size k = N2 at *
              generalize PD.size k = S at *
              generalize dEnd (bs x) = E at *
              clear hsp hsc hf hne hdd hL hdt hdl hrel hb hk hkI hv hS
              go_wp2_with (first | (go_at_call 18; refine (C18 _).mono ?_; rintro e w' ⟨rfl, rfl⟩) | (go_at_call 19; refine (C19 _).mono ?_; rintro e w' ⟨rfl, rfl⟩) | (go_at_call 20; refine (C20 _).mono ?_; rintro e w' ⟨rfl, rfl⟩) | (go_at_call 21; refine (C21 _).mono ?_; rintro e w' ⟨rfl, rfl⟩) | (go_at_call 23; refine (C23 _).mono ?_; rintro e w' ⟨rfl, rfl⟩) | (go_at_call 22; refine (C22 _).mono ?_; rintro e w' ⟨rfl, rfl⟩))
              go_round
              case rel => exact ⟨_, N2, k + 1, rfl, rfl, by go_num, by rw [HZ.out]; omega, HR.out⟩
              case measure => show (x.extract (E + L) x.size).size < x.size; rw [HZ.out]; omega
            · rw [show belowV N M k = _ from if_neg hb] at C22
              have hno : PD.spP (T.length + 1) 0 0 T = none := by
                rw [← hsp]; unfold PD.lim
                by_cases hb1 : 9223372036854775808 < M * PD.size k
                · rw [if_pos hb1]
                · rw [if_neg hb1, if_pos (by omega)]
              have HV := Lib.hid (rel_none HC.out HT.out (.inl hno))
              generalize lEnd (bs (x.extract (dEnd (bs x)) x.size)) = L at *
              generalize PD.size k = S at *
              generalize dEnd (bs x) = E at *
              clear hsp hsc hf hne hdd hL hdt hdl hb hk hkI hv hS hno
              go_wp2_with (first | (go_at_call 18; refine (C18 _).mono ?_; rintro e w' ⟨rfl, rfl⟩) | (go_at_call 19; refine (C19 _).mono ?_; rintro e w' ⟨rfl, rfl⟩) | (go_at_call 20; refine (C20 _).mono ?_; rintro e w' ⟨rfl, rfl⟩) | (go_at_call 21; refine (C21 _).mono ?_; rintro e w' ⟨rfl, rfl⟩) | (go_at_call 23; refine (C23 _).mono ?_; rintro e w' ⟨rfl, rfl⟩) | (go_at_call 22; refine (C22 _).mono ?_; rintro e w' ⟨rfl, rfl⟩))
              go_ret2
              rw [HV.out]
              exact ⟨rfl, rfl⟩
          · rw [show lowV ((bs x).takeWhile PD.dig) = .tuple #[.int .i64 0, .bool false] from if_neg hv] at C21
            rw [if_pos (show PD.lim < PD.val ((bs x).takeWhile PD.dig) by unfold PD.lim; omega)] at hsp
            have HV := Lib.hid (rel_none HC.out HT.out (.inl hsp.symm))
            generalize lEnd (bs (x.extract (dEnd (bs x)) x.size)) = L at *
            generalize dEnd (bs x) = E at *
            clear hsp hsc hf hne hdd hL hdt hdl hk hkI hv
            go_wp2_with (first | (go_at_call 18; refine (C18 _).mono ?_; rintro e w' ⟨rfl, rfl⟩) | (go_at_call 19; refine (C19 _).mono ?_; rintro e w' ⟨rfl, rfl⟩) | (go_at_call 20; refine (C20 _).mono ?_; rintro e w' ⟨rfl, rfl⟩) | (go_at_call 21; refine (C21 _).mono ?_; rintro e w' ⟨rfl, rfl⟩))
            go_ret2
            rw [HV.out]
            exact ⟨rfl, rfl⟩

set_option maxHeartbeats 2000000 in
theorem dur13_pos (s : ByteArray) (w : World) (hs1 : s.size ≤ 4611686018427387904) (hs : 0 < s.size) (h : s[0].toNat ≠ 45) : Calls Tryd.prog 13 #[.string s] w fun e w' => e = .returned (durV (bs s)) ∧ w' = w := by
  have i0 := isE (x := s) (by omega)
  obtain ⟨T, hT⟩ : ∃ T, T = bs s := ⟨_, rfl⟩
  have hTl : T.length = s.size := by rw [hT, bs_len]
  have HC := Lib.hid (show cut (bs s) = (false, T) by
    rw [hT]; refine cut_plain ?_; rw [bs_head (s := s) (by omega)]; intro e; injection e with e; exact h (by rw [e]; rfl))
  have HT := Lib.hid (show T ≠ [] from fun e => by rw [e] at hTl; simp at hTl; omega)
  have HX := Lib.hid (show s.size ≤ 4611686018427387904 ∧ SpRel T s 0 0 from
    ⟨hs1, by omega, by omega, T.length + 1, by omega, by rw [← hT]⟩)
  clear hT hTl
  have gb : ((s[0].toNat : Int) == 45) = false := beq_eq_false_iff_ne.2 (by omega)
  clear h
  go_enter Tryd.func13, Tryd.ntmps13
  go_wp2
  go_loop [0, 5, 6] (fun s n u' => ∃ (x : ByteArray) (N u : Nat), s = .string x ∧ n = .int .i64 (-(N : Int)) ∧ u' = .int .i64 u ∧ x.size ≤ 4611686018427387904 ∧ SpRel T x N u) (fun s _ _ => szS s)
  case atStart => exact ⟨_, 0, 0, rfl, rfl, rfl, HX.out.1, HX.out.2⟩
  case round =>
    obtain ⟨x, N, u, rfl, rfl, rfl, hxs, hu5, hN, f, hf, hsp⟩ := hrel
    by_cases hx0 : x.size = 0
    · have i0 := isE0 hx0
      rw [bs_nil x hx0, show f = (f - 1) + 1 by omega, show PD.spP (f - 1 + 1) u N [] = some N by unfold PD.spP; exact if_pos rfl] at hsp
      by_cases hm : N = 9223372036854775808
      · have HV := Lib.hid (rel_none HC.out HT.out (.inr (hm ▸ hsp.symm)))
        subst hm
        clear hsp hf hx0
        go_wp2_with fail
        go_ret2
        rw [HV.out]
        exact ⟨rfl, rfl⟩
      · have HV := Lib.hid (rel_some HC.out HT.out hsp.symm hm)
        have C := fun w => signed24 (-(N : Int)) false w (by omega) (by omega)
        have g : ((-(N : Int)) == -9223372036854775808) = false := beq_eq_false_iff_ne.2 (by omega)
        clear hsp hf hx0 hm
        go_wp2_with (go_at_call 24; refine (C _).mono ?_; rintro e w' ⟨rfl, rfl⟩)
        go_ret2
        rw [HV.out]
        exact ⟨by simp [sgn], rfl⟩
    · have i0 := isE hx0
      have hne := bs_ne hx0
      obtain ⟨f, rfl⟩ : ∃ f', f = f' + 1 := ⟨f - 1, by omega⟩
      have C18 := fun w => end18 x w hxs
      have hE := dEnd_size x
      have C19 := fun w => unit19 (x.extract (dEnd (bs x)) x.size) w (by rw [extract_size x _ hE]; omega)
      have C20 := fun w => unit20 ((x.extract (dEnd (bs x)) x.size).extract 0 (lEnd (bs (x.extract (dEnd (bs x)) x.size)))) w
      rw [ltake] at C20
      have hdd := ddrop x
      have hL : lEnd (bs (x.extract (dEnd (bs x)) x.size)) = lEnd ((bs x).dropWhile PD.dig) := by rw [hdd]
      have hLE : lEnd (bs (x.extract (dEnd (bs x)) x.size)) ≤ x.size - dEnd (bs x) := by
        have := lEnd_le (bs (x.extract (dEnd (bs x)) x.size)); rw [bs_len, extract_size x _ hE] at this; exact this
      have hLS := ln_size x _ _ hE hLE
      by_cases h0 : dEnd (bs x) = 0
      · have HV := Lib.hid (rel_none HC.out HT.out (.inl (hsp.symm.trans (sp_a hne (tw_nil h0)))))
        have hdt := dtake x
        have g : (((dEnd (bs x) : Nat) : Int) == 0) = true := beq_iff_eq.2 (by omega)
        generalize lEnd (bs (x.extract (dEnd (bs x)) x.size)) = L at *
        generalize unitI (((bs x).dropWhile PD.dig).takeWhile PD.low) = U at *
        generalize dEnd (bs x) = E at *
        clear hsp hf hne h0 hdt hdd hL hx0
        go_wp2_with (first | (go_at_call 18; refine (C18 _).mono ?_; rintro e w' ⟨rfl, rfl⟩) | (go_at_call 19; refine (C19 _).mono ?_; rintro e w' ⟨rfl, rfl⟩) | (go_at_call 20; refine (C20 _).mono ?_; rintro e w' ⟨rfl, rfl⟩))
        go_ret2
        rw [HV.out]
        exact ⟨rfl, rfl⟩
      · have g : (((dEnd (bs x) : Nat) : Int) == 0) = false := beq_eq_false_iff_ne.2 (by omega)
        rcases unit_cases (((bs x).dropWhile PD.dig).takeWhile PD.low) u with hU | ⟨k, hk, hkI, huk, hk4⟩
        · have HV := Lib.hid (rel_none HC.out HT.out (.inl (hsp.symm.trans (sp_b hne hU))))
          generalize lEnd (bs (x.extract (dEnd (bs x)) x.size)) = L at *
          generalize unitI (((bs x).dropWhile PD.dig).takeWhile PD.low) = U at *
          generalize dEnd (bs x) = E at *
          clear hsp hf hne h0 hdd hL hx0
          go_wp2_with (first | (go_at_call 18; refine (C18 _).mono ?_; rintro e w' ⟨rfl, rfl⟩) | (go_at_call 19; refine (C19 _).mono ?_; rintro e w' ⟨rfl, rfl⟩) | (go_at_call 20; refine (C20 _).mono ?_; rintro e w' ⟨rfl, rfl⟩))
          go_ret2
          rw [HV.out]
          exact ⟨rfl, rfl⟩
        · have hsc := sp_c (f := f) (N := N) hne hk (tw_ne h0) huk
          rw [hsc] at hsp
          rw [hkI] at C20
          have gu : ¬ ((k : Int) < u) := by omega
          have hdt := dtake x
          have hdl := ldrop x _ hL
          have C21 := fun w => lowered21 (x.extract 0 (dEnd (bs x))) w (by simp only [ByteArray.size_extract]; omega) (by rw [hdt]; exact fun c hc => PD.takeWhile_all PD.dig (bs x) c hc)
          rw [hdt] at C21
          by_cases hv : PD.val ((bs x).takeWhile PD.dig) ≤ 9223372036854775808
          · rw [show lowV ((bs x).takeWhile PD.dig) = .tuple #[.int .i64 (-(PD.val ((bs x).takeWhile PD.dig) : Int)), .bool true] from if_pos hv] at C21
            have C23 := fun w => size23 k hk4 w
            have C22 := fun w => below22 N (PD.val ((bs x).takeWhile PD.dig)) k hk4 hN hv w
            have hS := PD.size_pos k
            rw [if_neg (show ¬ PD.lim < PD.val ((bs x).takeWhile PD.dig) by unfold PD.lim; omega)] at hsp
            generalize PD.val ((bs x).takeWhile PD.dig) = M at *
            by_cases hb : M * PD.size k ≤ 9223372036854775808 ∧ N + M * PD.size k ≤ 9223372036854775808
            · rw [show belowV N M k = _ from if_pos hb] at C22
              rw [if_neg (by unfold PD.lim; omega), if_neg (by unfold PD.lim; omega)] at hsp
              have hrel : SpRel T (x.extract (dEnd (bs x) + lEnd (bs (x.extract (dEnd (bs x)) x.size))) x.size) (N + M * PD.size k) (k + 1) :=
                ⟨by omega, hb.2, f, by rw [extract_size x _ (by omega)]; omega, by rw [hdl]; exact hsp⟩
              have HR := Lib.hid hrel
              have HZ := Lib.hid (extract_size x (dEnd (bs x) + lEnd (bs (x.extract (dEnd (bs x)) x.size))) (by omega))
              generalize lEnd (bs (x.extract (dEnd (bs x)) x.size)) = L at *
              have hN2 := hb.2
              generalize N + M * PD.size k = N2 at *
              generalize PD.size k = S at *
              generalize dEnd (bs x) = E at *
              clear hsp hsc hf hne hdd hL hdt hdl hrel hb hk hkI hv hS
              go_wp2_with (first | (go_at_call 18; refine (C18 _).mono ?_; rintro e w' ⟨rfl, rfl⟩) | (go_at_call 19; refine (C19 _).mono ?_; rintro e w' ⟨rfl, rfl⟩) | (go_at_call 20; refine (C20 _).mono ?_; rintro e w' ⟨rfl, rfl⟩) | (go_at_call 21; refine (C21 _).mono ?_; rintro e w' ⟨rfl, rfl⟩) | (go_at_call 23; refine (C23 _).mono ?_; rintro e w' ⟨rfl, rfl⟩) | (go_at_call 22; refine (C22 _).mono ?_; rintro e w' ⟨rfl, rfl⟩))
              go_round
              case rel => exact ⟨_, N2, k + 1, rfl, rfl, by go_num, by rw [HZ.out]; omega, HR.out⟩
              case measure => show (x.extract (E + L) x.size).size < x.size; rw [HZ.out]; omega
            · rw [show belowV N M k = _ from if_neg hb] at C22
              have hno : PD.spP (T.length + 1) 0 0 T = none := by
                rw [← hsp]; unfold PD.lim
                by_cases hb1 : 9223372036854775808 < M * PD.size k
                · rw [if_pos hb1]
                · rw [if_neg hb1, if_pos (by omega)]
              have HV := Lib.hid (rel_none HC.out HT.out (.inl hno))
              generalize lEnd (bs (x.extract (dEnd (bs x)) x.size)) = L at *
              generalize PD.size k = S at *
              generalize dEnd (bs x) = E at *
              clear hsp hsc hf hne hdd hL hdt hdl hb hk hkI hv hS hno
              go_wp2_with (first | (go_at_call 18; refine (C18 _).mono ?_; rintro e w' ⟨rfl, rfl⟩) | (go_at_call 19; refine (C19 _).mono ?_; rintro e w' ⟨rfl, rfl⟩) | (go_at_call 20; refine (C20 _).mono ?_; rintro e w' ⟨rfl, rfl⟩) | (go_at_call 21; refine (C21 _).mono ?_; rintro e w' ⟨rfl, rfl⟩) | (go_at_call 23; refine (C23 _).mono ?_; rintro e w' ⟨rfl, rfl⟩) | (go_at_call 22; refine (C22 _).mono ?_; rintro e w' ⟨rfl, rfl⟩))
              go_ret2
              rw [HV.out]
              exact ⟨rfl, rfl⟩
          · rw [show lowV ((bs x).takeWhile PD.dig) = .tuple #[.int .i64 0, .bool false] from if_neg hv] at C21
            rw [if_pos (show PD.lim < PD.val ((bs x).takeWhile PD.dig) by unfold PD.lim; omega)] at hsp
            have HV := Lib.hid (rel_none HC.out HT.out (.inl hsp.symm))
            generalize lEnd (bs (x.extract (dEnd (bs x)) x.size)) = L at *
            generalize dEnd (bs x) = E at *
            clear hsp hsc hf hne hdd hL hdt hdl hk hkI hv
            go_wp2_with (first | (go_at_call 18; refine (C18 _).mono ?_; rintro e w' ⟨rfl, rfl⟩) | (go_at_call 19; refine (C19 _).mono ?_; rintro e w' ⟨rfl, rfl⟩) | (go_at_call 20; refine (C20 _).mono ?_; rintro e w' ⟨rfl, rfl⟩) | (go_at_call 21; refine (C21 _).mono ?_; rintro e w' ⟨rfl, rfl⟩))
            go_ret2
            rw [HV.out]
            exact ⟨rfl, rfl⟩

theorem dur13 (s : ByteArray) (w : World) (hs1 : s.size ≤ 4611686018427387904) : Calls Tryd.prog 13 #[.string s] w fun e w' => e = .returned (durV (bs s)) ∧ w' = w := by
  by_cases h0 : s.size = 0
  · exact dur13_empty s w h0
  · by_cases h : (s[0]'(by omega)).toNat = 45
    · by_cases h1 : s.size = 1
      · exact dur13_minus s w h1 h
      · exact dur13_neg s w hs1 (by omega) h
    · exact dur13_pos s w hs1 (by omega) h

theorem spec9 (s : ByteArray) (w : World) (hs1 : s.size ≤ 4611686018427387904) : Calls Tryd.prog 9 #[.string s] w fun e w' => e = .returned (durV (bs s)) ∧ w' = w := by
  have C := fun w => dur13 s w hs1
  obtain ⟨n, b, hv⟩ : ∃ n b, durV (bs s) = .tuple #[.int .i64 n, .bool b] := by
    unfold durV; split
    · exact ⟨_, _, rfl⟩
    · exact ⟨_, _, rfl⟩
  rw [hv] at C ⊢
  clear hv
  go_enter Tryd.func9, Tryd.ntmps9
  go_wp2_with (go_at_call 13; refine (C _).mono ?_; rintro e w' ⟨rfl, rfl⟩)
  go_ret2
  exact ⟨rfl, rfl⟩
end Go.Proofs.YthbdcekcockhfaaDoor.Dur
