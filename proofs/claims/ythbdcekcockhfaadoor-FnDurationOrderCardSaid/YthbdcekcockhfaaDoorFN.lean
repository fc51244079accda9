/-
  WALKS of the package's reader of durations, second part: ParseDuration (11), a text with a sign. Printed by mkDurF.py.
-/
import Derived.Test.YthbdcekcockhfaaDoorF
namespace Go.Proofs.YthbdcekcockhfaaDoor.Dur
open Go.RowKit Go.ChangeMaps

set_option maxRecDepth 100000 in
set_option maxHeartbeats 4000000 in
theorem parse11_neg (s : ByteArray) (w : World) (T : TypeId) (x : Value) (R : Option Nat) (hE : w.cell? ⟨0, 0, none⟩ = some (.iface T x)) (h0 : 0 < w.heap.size) (hs : 1 < s.size) (hsz : s.size ≤ 1000000) (hb : s[0].toNat = 45)
    (hT : PD.goP 0 0 0 false ((bs s).drop 1) = R) (hd : (R = none → durO (bs s) = none) ∧ ∀ m, R = some m → durO (bs s) = some (sgn true m)) :
    Calls Tryd.prog 11 #[.string s] w (PEnd w (.iface T x) (bs s)) := by
  have hle : ¬ (s.size : Int) ≤ 1 := by omega
  have hE1 : (w.alloc (.cells #[.int .i64 0] 36)).cell? ⟨0, 0, none⟩ = some (.iface T x) := (((Below.refl w.heap.size w).alloc (Nat.le_refl _) _).cell (p := ⟨0, 0, none⟩) h0).trans hE
  have HP := Lib.hid (show PW w (.iface T x) (w.alloc (.cells #[.int .i64 0] 36)) from ⟨(Below.refl _ _).alloc (Nat.le_refl _) _, heap_alloc_new _ _, h0, hE1⟩)
  have HD := Lib.hid hd
  have HT := Lib.hid hT
  have gb : ((s[0].toNat : Int) == 45) = true := beq_iff_eq.2 (by omega)
  clear hd hT hb hE hE1
  go_enter Tryd.func11, Tryd.ntmps11
  go_wp2
  go_loopw [4, 5, 7, 8, 10] (fun i' u' tot' v' h' wr => ∃ (i u tot v : Nat) (h : Bool), i' = .int .i64 i ∧ u' = .int .i64 u ∧ tot' = .int .i64 tot ∧ v' = .int .i64 v ∧ h' = .bool h ∧ i ≤ s.size ∧ u ≤ 5 ∧ tot ≤ 9223372036854775807 ∧ v ≤ 9223372036854775807 ∧ PD.goP u tot v h ((bs s).drop i) = R ∧ PW w (.iface T x) wr) (fun i' _ _ _ _ _ => s.size - (intOf i').toNat)
  case atStart => exact ⟨_, 0, 0, 0, false, rfl, rfl, rfl, rfl, rfl, by show 1 ≤ s.size; omega, by omega, by omega, by omega, HT.out, HP.out⟩
  case round =>
    obtain ⟨i, u, tot, v, h, rfl, rfl, rfl, rfl, rfl, hi, hu5, htot, hv, hgo, hpw⟩ := hrel
    replace HP := Lib.hid hpw
    have hg0 := HP.out.glob
    have hc0 := cell_of_one HP.out.res
    have hf0 := free_of_one HP.out.res
    clear hpw
    by_cases hlt : i < s.size
    · rw [bs_get s i hlt] at hgo
      by_cases hu : u < 5
      · clear hg0 hc0 hf0
        by_cases hd : 48 ≤ s[i].toNat ∧ s[i].toNat ≤ 57
        · obtain ⟨d1, d2⟩ := hd
          have d1' : (48 : Int) ≤ (s[i].toNat : Int) := by omega
          have d2' : (s[i].toNat : Int) ≤ 57 := by omega
          by_cases hov : 9223372036854775807 < v * 10 + (s[i].toNat - 48)
          · have HV := Lib.hid (hgo.symm.trans (goP_dig_no hu (dig_yes d1 d2) hov))
            have gov : (9223372036854775807 - ((s[i].toNat : Int) - 48)) / 10 < (v : Int) := by omega
            clear hgo hov
            go_wp2_with fail
            refine (order16 _).mono ?_
            rintro e wa ⟨rfl, hba, hca⟩
            replace HP := Lib.hid (HP.out.next hba)
            have hg0 := HP.out.glob
            have hc0 := cell_of_one HP.out.res
            have hf0 := free_of_one HP.out.res
            simp only []

            go_wp2_with fail
            have hcf := cell_of_one (one_setCell (u := .int .i64 0) HP.out.res)
            go_region
            all_goals go_wp2_with fail
            all_goals refine bodyPost_ret (v := .tuple #[.agg #[.int .i64 0], .iface T x]) (by simp [results, Tryd.results11, go_sem, hcf]) rfl ?_
            all_goals exact pend_err (HD.out.1 HV.out) (HP.out.bel.setCell (Nat.le_refl _) _).drew

          · have HV := Lib.hid ((goP_dig (tot := tot) (h := h) (r := (bs s).drop (i + 1)) hu (dig_yes d1 d2) hov).symm.trans hgo)
            have gov : ¬ (9223372036854775807 - ((s[i].toNat : Int) - 48)) / 10 < (v : Int) := by omega
            have hov' : v * 10 + (s[i].toNat - 48) ≤ 9223372036854775807 := by omega
            clear hgo hov
            go_wp2_with fail
            refine (order16 _).mono ?_
            rintro e wa ⟨rfl, hba, hca⟩
            replace HP := Lib.hid (HP.out.next hba)
            have hg0 := HP.out.glob
            have hc0 := cell_of_one HP.out.res
            have hf0 := free_of_one HP.out.res
            simp only []

            go_wp2_with fail
            refine ⟨⟨i + 1, u, tot, v * 10 + (s[i].toNat - 48), true, by go_num, rfl, rfl, ?_, rfl, by omega, by omega, by omega, hov', HV.out, HP.out⟩, by simp [intOf]; omega⟩
            congr 1; omega
        · have hdn : PD.dig s[i] = false := dig_no (by omega)
          by_cases hb : s[i].toNat = 100
          · have d1' : (48 : Int) ≤ (s[i].toNat : Int) := by omega
            have d2' : ¬ (s[i].toNat : Int) ≤ 57 := by omega
            have g100 : ((s[i].toNat : Int) == 100) = true := beq_iff_eq.2 (by omega)
            have g109 : ((s[i].toNat : Int) == 109) = false := beq_eq_false_iff_ne.2 (by omega)
            clear hd
            cases h with
            | false =>
              have HV := Lib.hid (hgo.symm.trans (goP_noval hu hdn))
              clear hgo hdn
              go_wp2_with fail
              refine (order16 _).mono ?_
              rintro e wa ⟨rfl, hba, hca⟩
              replace HP := Lib.hid (HP.out.next hba)
              have hg0 := HP.out.glob
              have hc0 := cell_of_one HP.out.res
              have hf0 := free_of_one HP.out.res
              simp only []
              go_wp2_with fail
              have hcf := cell_of_one (one_setCell (u := .int .i64 0) HP.out.res)
              go_region
              all_goals go_wp2_with fail
              all_goals refine bodyPost_ret (v := .tuple #[.agg #[.int .i64 0], .iface T x]) (by simp [results, Tryd.results11, go_sem, hcf]) rfl ?_
              all_goals exact pend_err (HD.out.1 HV.out) (HP.out.bel.setCell (Nat.le_refl _) _).drew
            | true =>
              rw [goP_unit (k := 0) (r' := (bs s).drop (i + 1)) hu hdn (unitG_one (by rw [byteEq (c := 100) hb]; rfl) (fun e => by have := congrArg UInt8.toNat e.1; rw [hb] at this; exact absurd this (by decide)))] at hgo
              rw [if_neg (by decide), show PD.size 0 = 86400000 from rfl] at hgo
              have hnm : s.extract i (i + 1) = ⟨#[100]⟩ := ext_one s i hlt (byteEq (c := 100) hb)
              have HN := Lib.hid hnm
              clear hnm
              have HG := Lib.hid hgo
              clear hgo hdn
              go_wp2_with fail
              refine (order16 _).mono ?_
              rintro e wa ⟨rfl, hba, hca⟩
              replace HP := Lib.hid (HP.out.next hba)
              have hg0 := HP.out.glob
              have hc0 := cell_of_one HP.out.res
              have hf0 := free_of_one HP.out.res
              simp only []
              go_wp2_with fail
              go_loopw [12, 5] (fun ok u' wq => PW w (.iface T x) wq ∧ ((∃ q : Nat, ok = .bool false ∧ u' = .int .i64 q ∧ u ≤ q ∧ q ≤ 5 ∧ (u ≤ 0 → q ≤ 0)) ∨ (u ≤ 0 ∧ ok = .bool true ∧ u' = .int .i64 1))) (fun _ u' _ => 10 - (intOf u').toNat)
              case atStart => exact ⟨HP.out, .inl ⟨u, rfl, rfl, Nat.le_refl _, by omega, fun h => h⟩⟩
              case round =>
                obtain ⟨hpq, hrel⟩ := hrel
                replace HP := Lib.hid hpq
                have hg0 := HP.out.glob
                have hc0 := cell_of_one HP.out.res
                have hf0 := free_of_one HP.out.res
                clear hpq
                rcases hrel with ⟨q, rfl, rfl, huq, hq5, hqk⟩ | ⟨huk, rfl, rfl⟩
                · by_cases hq : q < 5
                  · clear hg0 hc0 hf0
                    by_cases hqe : q = 0
                    · subst hqe
                      have gq : ((s.extract i (i + 1)).toList == (uname 0).toList) = true := by rw [HN.out]; exact un_eq 0
                      go_wp2_with fail
                      refine (order16 _).mono ?_
                      rintro e wa ⟨rfl, hba, hca⟩
                      replace HP := Lib.hid (HP.out.next hba)
                      have hg0 := HP.out.glob
                      have hc0 := cell_of_one HP.out.res
                      have hf0 := free_of_one HP.out.res
                      simp only []
              
                      go_wp2_with fail
                      refine (order16 _).mono ?_
                      rintro e wa ⟨rfl, hba, hca⟩
                      replace HP := Lib.hid (HP.out.next hba)
                      have hg0 := HP.out.glob
                      have hc0 := cell_of_one HP.out.res
                      have hf0 := free_of_one HP.out.res
                      simp only []
              
                      have hcq := hca 0 (by omega)
                      go_wp2_with fail
                      exact ⟨⟨HP.out, .inr ⟨by omega, rfl, rfl⟩⟩, by simp [intOf]⟩
                    · have gq : ((s.extract i (i + 1)).toList == (uname q).toList) = false := by rw [HN.out]; exact un_ne 0 q (by omega) hq hqe
                      go_wp2_with fail
                      refine (order16 _).mono ?_
                      rintro e wa ⟨rfl, hba, hca⟩
                      replace HP := Lib.hid (HP.out.next hba)
                      have hg0 := HP.out.glob
                      have hc0 := cell_of_one HP.out.res
                      have hf0 := free_of_one HP.out.res
                      simp only []
              
                      go_wp2_with fail
                      refine (order16 _).mono ?_
                      rintro e wa ⟨rfl, hba, hca⟩
                      replace HP := Lib.hid (HP.out.next hba)
                      have hg0 := HP.out.glob
                      have hc0 := cell_of_one HP.out.res
                      have hf0 := free_of_one HP.out.res
                      simp only []
              
                      have hcq := hca q hq
                      go_wp2_with fail
                      exact ⟨⟨HP.out, .inl ⟨q + 1, rfl, by go_num, by omega, by omega, fun h => by have := hqk h; omega⟩⟩, by simp [intOf]; omega⟩
                  · have hq' : q = 5 := by omega
                    subst hq'
                    have HV := Lib.hid (HG.out.symm.trans (if_pos (show 0 < u by omega)))
                    clear hg0 hc0 hf0
                    go_wp2_with fail
                    refine (order16 _).mono ?_
                    rintro e wa ⟨rfl, hba, hca⟩
                    replace HP := Lib.hid (HP.out.next hba)
                    have hg0 := HP.out.glob
                    have hc0 := cell_of_one HP.out.res
                    have hf0 := free_of_one HP.out.res
                    simp only []
              
                    go_wp2_with fail
                    have hcf := cell_of_one (one_setCell (u := .int .i64 0) HP.out.res)
                    go_region
                    all_goals go_wp2_with fail
                    all_goals refine bodyPost_ret (v := .tuple #[.agg #[.int .i64 0], .iface T x]) (by simp [results, Tryd.results11, go_sem, hcf]) rfl ?_
                    all_goals exact pend_err (HD.out.1 HV.out) (HP.out.bel.setCell (Nat.le_refl _) _).drew
              
                · have hgo := HG.out
                  rw [if_neg (by omega)] at hgo
                  by_cases hm1 : PD.mx < v * 86400000
                  · rw [if_pos hm1] at hgo
                    have HV := Lib.hid hgo.symm
                    have gm1 : (106751991167 : Int) < (v : Int) := by unfold PD.mx at hm1; omega
                    clear hgo hm1 hg0 hc0 hf0
                    go_wp2_with fail
                    refine (sizes17 _).mono ?_
                    rintro e wm ⟨rfl, hbm, hown⟩
                    replace HP := Lib.hid (HP.out.next hbm)
                    have hg0 := HP.out.glob
                    have hc0 := cell_of_one HP.out.res
                    have hf0 := free_of_one HP.out.res
                    simp only []
                    go_wp2_with (at_lookup; refine wpList_lookup_own_int _ (by rfl) _ _ 49 (by rfl) 9 2 .i64 keyed9 Tryd.underlying49 Tryd.underlying2 (zero2 _) wr.heap.size 5 sizes5 (by rfl) hown _ (.string [100]) (by rfl) (by rw [HN.out]; exact Go.WideMaps.keyOf_string_mk Tryd.underlying9 (by decide)) ?_; intro c hat hwc; obtain rfl := at_lit (at5_0) hat; clear hat hwc)
              
                    have hcf := cell_of_one (one_setCell (u := .int .i64 0) HP.out.res)
                    go_region
                    all_goals go_wp2_with fail
                    all_goals refine bodyPost_ret (v := .tuple #[.agg #[.int .i64 0], .iface T x]) (by simp [results, Tryd.results11, go_sem, hcf]) rfl ?_
                    all_goals exact pend_err (HD.out.1 HV.out) (HP.out.bel.setCell (Nat.le_refl _) _).drew
              
                  · rw [if_neg hm1] at hgo
                    have gm1 : ¬ (106751991167 : Int) < (v : Int) := by unfold PD.mx at hm1; omega
                    have gm2 : (v : Int) * 86400000 ≤ 9223372036854775807 := by unfold PD.mx at hm1; omega
                    by_cases hm2 : PD.mx < tot + v * 86400000
                    · rw [if_pos hm2] at hgo
                      have HV := Lib.hid hgo.symm
                      have gm3 : 9223372036854775807 - (v : Int) * 86400000 < (tot : Int) := by unfold PD.mx at hm2; omega
                      clear hgo hm1 hm2 hg0 hc0 hf0
                      go_wp2_with fail
                      refine (sizes17 _).mono ?_
                      rintro e wm ⟨rfl, hbm, hown⟩
                      replace HP := Lib.hid (HP.out.next hbm)
                      have hg0 := HP.out.glob
                      have hc0 := cell_of_one HP.out.res
                      have hf0 := free_of_one HP.out.res
                      simp only []
                      go_wp2_with (at_lookup; refine wpList_lookup_own_int _ (by rfl) _ _ 49 (by rfl) 9 2 .i64 keyed9 Tryd.underlying49 Tryd.underlying2 (zero2 _) wr.heap.size 5 sizes5 (by rfl) hown _ (.string [100]) (by rfl) (by rw [HN.out]; exact Go.WideMaps.keyOf_string_mk Tryd.underlying9 (by decide)) ?_; intro c hat hwc; obtain rfl := at_lit (at5_0) hat; clear hat hwc)
              
                      have hcf := cell_of_one (one_setCell (u := .int .i64 0) HP.out.res)
                      go_region
                      all_goals go_wp2_with fail
                      all_goals refine bodyPost_ret (v := .tuple #[.agg #[.int .i64 0], .iface T x]) (by simp [results, Tryd.results11, go_sem, hcf]) rfl ?_
                      all_goals exact pend_err (HD.out.1 HV.out) (HP.out.bel.setCell (Nat.le_refl _) _).drew
              
                    · rw [if_neg hm2] at hgo
                      have HV := Lib.hid hgo
                      have gm3 : ¬ 9223372036854775807 - (v : Int) * 86400000 < (tot : Int) := by unfold PD.mx at hm2; omega
                      have gm4 : tot + v * 86400000 ≤ 9223372036854775807 := by unfold PD.mx at hm2; omega
                      clear hgo hm1 hm2 hg0 hc0 hf0
                      go_wp2_with fail
                      refine (sizes17 _).mono ?_
                      rintro e wm ⟨rfl, hbm, hown⟩
                      replace HP := Lib.hid (HP.out.next hbm)
                      have hg0 := HP.out.glob
                      have hc0 := cell_of_one HP.out.res
                      have hf0 := free_of_one HP.out.res
                      simp only []
                      go_wp2_with (at_lookup; refine wpList_lookup_own_int _ (by rfl) _ _ 49 (by rfl) 9 2 .i64 keyed9 Tryd.underlying49 Tryd.underlying2 (zero2 _) wr.heap.size 5 sizes5 (by rfl) hown _ (.string [100]) (by rfl) (by rw [HN.out]; exact Go.WideMaps.keyOf_string_mk Tryd.underlying9 (by decide)) ?_; intro c hat hwc; obtain rfl := at_lit (at5_0) hat; clear hat hwc)
              
                      refine ⟨⟨i + 1, 1, tot + v * 86400000, 0, false, ?_, rfl, ?_, rfl, rfl, by omega, by omega, gm4, by omega, HV.out, HP.out⟩, by simp [intOf]; omega⟩
                      · first | (congr 1; done) | (congr 1; omega)
                      · first | (congr 1; done) | (congr 1; omega)
          · have hz : True := trivial
            clear hz
            by_cases hb : s[i].toNat = 104
            · have d1' : (48 : Int) ≤ (s[i].toNat : Int) := by omega
              have d2' : ¬ (s[i].toNat : Int) ≤ 57 := by omega
              have g100 : ((s[i].toNat : Int) == 100) = false := beq_eq_false_iff_ne.2 (by omega)
              have g104 : ((s[i].toNat : Int) == 104) = true := beq_iff_eq.2 (by omega)
              have g109 : ((s[i].toNat : Int) == 109) = false := beq_eq_false_iff_ne.2 (by omega)
              clear hd
              cases h with
              | false =>
                have HV := Lib.hid (hgo.symm.trans (goP_noval hu hdn))
                clear hgo hdn
                go_wp2_with fail
                refine (order16 _).mono ?_
                rintro e wa ⟨rfl, hba, hca⟩
                replace HP := Lib.hid (HP.out.next hba)
                have hg0 := HP.out.glob
                have hc0 := cell_of_one HP.out.res
                have hf0 := free_of_one HP.out.res
                simp only []
                go_wp2_with fail
                have hcf := cell_of_one (one_setCell (u := .int .i64 0) HP.out.res)
                go_region
                all_goals go_wp2_with fail
                all_goals refine bodyPost_ret (v := .tuple #[.agg #[.int .i64 0], .iface T x]) (by simp [results, Tryd.results11, go_sem, hcf]) rfl ?_
                all_goals exact pend_err (HD.out.1 HV.out) (HP.out.bel.setCell (Nat.le_refl _) _).drew
              | true =>
                rw [goP_unit (k := 1) (r' := (bs s).drop (i + 1)) hu hdn (unitG_one (by rw [byteEq (c := 104) hb]; rfl) (fun e => by have := congrArg UInt8.toNat e.1; rw [hb] at this; exact absurd this (by decide)))] at hgo
                rw [if_neg (by decide), show PD.size 1 = 3600000 from rfl] at hgo
                have hnm : s.extract i (i + 1) = ⟨#[104]⟩ := ext_one s i hlt (byteEq (c := 104) hb)
                have HN := Lib.hid hnm
                clear hnm
                have HG := Lib.hid hgo
                clear hgo hdn
                go_wp2_with fail
                refine (order16 _).mono ?_
                rintro e wa ⟨rfl, hba, hca⟩
                replace HP := Lib.hid (HP.out.next hba)
                have hg0 := HP.out.glob
                have hc0 := cell_of_one HP.out.res
                have hf0 := free_of_one HP.out.res
                simp only []
                go_wp2_with fail
                go_loopw [12, 5] (fun ok u' wq => PW w (.iface T x) wq ∧ ((∃ q : Nat, ok = .bool false ∧ u' = .int .i64 q ∧ u ≤ q ∧ q ≤ 5 ∧ (u ≤ 1 → q ≤ 1)) ∨ (u ≤ 1 ∧ ok = .bool true ∧ u' = .int .i64 2))) (fun _ u' _ => 10 - (intOf u').toNat)
                case atStart => exact ⟨HP.out, .inl ⟨u, rfl, rfl, Nat.le_refl _, by omega, fun h => h⟩⟩
                case round =>
                  obtain ⟨hpq, hrel⟩ := hrel
                  replace HP := Lib.hid hpq
                  have hg0 := HP.out.glob
                  have hc0 := cell_of_one HP.out.res
                  have hf0 := free_of_one HP.out.res
                  clear hpq
                  rcases hrel with ⟨q, rfl, rfl, huq, hq5, hqk⟩ | ⟨huk, rfl, rfl⟩
                  · by_cases hq : q < 5
                    · clear hg0 hc0 hf0
                      by_cases hqe : q = 1
                      · subst hqe
                        have gq : ((s.extract i (i + 1)).toList == (uname 1).toList) = true := by rw [HN.out]; exact un_eq 1
                        go_wp2_with fail
                        refine (order16 _).mono ?_
                        rintro e wa ⟨rfl, hba, hca⟩
                        replace HP := Lib.hid (HP.out.next hba)
                        have hg0 := HP.out.glob
                        have hc0 := cell_of_one HP.out.res
                        have hf0 := free_of_one HP.out.res
                        simp only []
                
                        go_wp2_with fail
                        refine (order16 _).mono ?_
                        rintro e wa ⟨rfl, hba, hca⟩
                        replace HP := Lib.hid (HP.out.next hba)
                        have hg0 := HP.out.glob
                        have hc0 := cell_of_one HP.out.res
                        have hf0 := free_of_one HP.out.res
                        simp only []
                
                        have hcq := hca 1 (by omega)
                        go_wp2_with fail
                        exact ⟨⟨HP.out, .inr ⟨by omega, rfl, rfl⟩⟩, by simp [intOf]⟩
                      · have gq : ((s.extract i (i + 1)).toList == (uname q).toList) = false := by rw [HN.out]; exact un_ne 1 q (by omega) hq hqe
                        go_wp2_with fail
                        refine (order16 _).mono ?_
                        rintro e wa ⟨rfl, hba, hca⟩
                        replace HP := Lib.hid (HP.out.next hba)
                        have hg0 := HP.out.glob
                        have hc0 := cell_of_one HP.out.res
                        have hf0 := free_of_one HP.out.res
                        simp only []
                
                        go_wp2_with fail
                        refine (order16 _).mono ?_
                        rintro e wa ⟨rfl, hba, hca⟩
                        replace HP := Lib.hid (HP.out.next hba)
                        have hg0 := HP.out.glob
                        have hc0 := cell_of_one HP.out.res
                        have hf0 := free_of_one HP.out.res
                        simp only []
                
                        have hcq := hca q hq
                        go_wp2_with fail
                        exact ⟨⟨HP.out, .inl ⟨q + 1, rfl, by go_num, by omega, by omega, fun h => by have := hqk h; omega⟩⟩, by simp [intOf]; omega⟩
                    · have hq' : q = 5 := by omega
                      subst hq'
                      have HV := Lib.hid (HG.out.symm.trans (if_pos (show 1 < u by omega)))
                      clear hg0 hc0 hf0
                      go_wp2_with fail
                      refine (order16 _).mono ?_
                      rintro e wa ⟨rfl, hba, hca⟩
                      replace HP := Lib.hid (HP.out.next hba)
                      have hg0 := HP.out.glob
                      have hc0 := cell_of_one HP.out.res
                      have hf0 := free_of_one HP.out.res
                      simp only []
                
                      go_wp2_with fail
                      have hcf := cell_of_one (one_setCell (u := .int .i64 0) HP.out.res)
                      go_region
                      all_goals go_wp2_with fail
                      all_goals refine bodyPost_ret (v := .tuple #[.agg #[.int .i64 0], .iface T x]) (by simp [results, Tryd.results11, go_sem, hcf]) rfl ?_
                      all_goals exact pend_err (HD.out.1 HV.out) (HP.out.bel.setCell (Nat.le_refl _) _).drew
                
                  · have hgo := HG.out
                    rw [if_neg (by omega)] at hgo
                    by_cases hm1 : PD.mx < v * 3600000
                    · rw [if_pos hm1] at hgo
                      have HV := Lib.hid hgo.symm
                      have gm1 : (2562047788015 : Int) < (v : Int) := by unfold PD.mx at hm1; omega
                      clear hgo hm1 hg0 hc0 hf0
                      go_wp2_with fail
                      refine (sizes17 _).mono ?_
                      rintro e wm ⟨rfl, hbm, hown⟩
                      replace HP := Lib.hid (HP.out.next hbm)
                      have hg0 := HP.out.glob
                      have hc0 := cell_of_one HP.out.res
                      have hf0 := free_of_one HP.out.res
                      simp only []
                      go_wp2_with (at_lookup; refine wpList_lookup_own_int _ (by rfl) _ _ 49 (by rfl) 9 2 .i64 keyed9 Tryd.underlying49 Tryd.underlying2 (zero2 _) wr.heap.size 5 sizes5 (by rfl) hown _ (.string [104]) (by rfl) (by rw [HN.out]; exact Go.WideMaps.keyOf_string_mk Tryd.underlying9 (by decide)) ?_; intro c hat hwc; obtain rfl := at_lit (at5_1) hat; clear hat hwc)
                
                      have hcf := cell_of_one (one_setCell (u := .int .i64 0) HP.out.res)
                      go_region
                      all_goals go_wp2_with fail
                      all_goals refine bodyPost_ret (v := .tuple #[.agg #[.int .i64 0], .iface T x]) (by simp [results, Tryd.results11, go_sem, hcf]) rfl ?_
                      all_goals exact pend_err (HD.out.1 HV.out) (HP.out.bel.setCell (Nat.le_refl _) _).drew
                
                    · rw [if_neg hm1] at hgo
                      have gm1 : ¬ (2562047788015 : Int) < (v : Int) := by unfold PD.mx at hm1; omega
                      have gm2 : (v : Int) * 3600000 ≤ 9223372036854775807 := by unfold PD.mx at hm1; omega
                      by_cases hm2 : PD.mx < tot + v * 3600000
                      · rw [if_pos hm2] at hgo
                        have HV := Lib.hid hgo.symm
                        have gm3 : 9223372036854775807 - (v : Int) * 3600000 < (tot : Int) := by unfold PD.mx at hm2; omega
                        clear hgo hm1 hm2 hg0 hc0 hf0
                        go_wp2_with fail
                        refine (sizes17 _).mono ?_
                        rintro e wm ⟨rfl, hbm, hown⟩
                        replace HP := Lib.hid (HP.out.next hbm)
                        have hg0 := HP.out.glob
                        have hc0 := cell_of_one HP.out.res
                        have hf0 := free_of_one HP.out.res
                        simp only []
                        go_wp2_with (at_lookup; refine wpList_lookup_own_int _ (by rfl) _ _ 49 (by rfl) 9 2 .i64 keyed9 Tryd.underlying49 Tryd.underlying2 (zero2 _) wr.heap.size 5 sizes5 (by rfl) hown _ (.string [104]) (by rfl) (by rw [HN.out]; exact Go.WideMaps.keyOf_string_mk Tryd.underlying9 (by decide)) ?_; intro c hat hwc; obtain rfl := at_lit (at5_1) hat; clear hat hwc)
                
                        have hcf := cell_of_one (one_setCell (u := .int .i64 0) HP.out.res)
                        go_region
                        all_goals go_wp2_with fail
                        all_goals refine bodyPost_ret (v := .tuple #[.agg #[.int .i64 0], .iface T x]) (by simp [results, Tryd.results11, go_sem, hcf]) rfl ?_
                        all_goals exact pend_err (HD.out.1 HV.out) (HP.out.bel.setCell (Nat.le_refl _) _).drew
                
                      · rw [if_neg hm2] at hgo
                        have HV := Lib.hid hgo
                        have gm3 : ¬ 9223372036854775807 - (v : Int) * 3600000 < (tot : Int) := by unfold PD.mx at hm2; omega
                        have gm4 : tot + v * 3600000 ≤ 9223372036854775807 := by unfold PD.mx at hm2; omega
                        clear hgo hm1 hm2 hg0 hc0 hf0
                        go_wp2_with fail
                        refine (sizes17 _).mono ?_
                        rintro e wm ⟨rfl, hbm, hown⟩
                        replace HP := Lib.hid (HP.out.next hbm)
                        have hg0 := HP.out.glob
                        have hc0 := cell_of_one HP.out.res
                        have hf0 := free_of_one HP.out.res
                        simp only []
                        go_wp2_with (at_lookup; refine wpList_lookup_own_int _ (by rfl) _ _ 49 (by rfl) 9 2 .i64 keyed9 Tryd.underlying49 Tryd.underlying2 (zero2 _) wr.heap.size 5 sizes5 (by rfl) hown _ (.string [104]) (by rfl) (by rw [HN.out]; exact Go.WideMaps.keyOf_string_mk Tryd.underlying9 (by decide)) ?_; intro c hat hwc; obtain rfl := at_lit (at5_1) hat; clear hat hwc)
                
                        refine ⟨⟨i + 1, 2, tot + v * 3600000, 0, false, ?_, rfl, ?_, rfl, rfl, by omega, by omega, gm4, by omega, HV.out, HP.out⟩, by simp [intOf]; omega⟩
                        · first | (congr 1; done) | (congr 1; omega)
                        · first | (congr 1; done) | (congr 1; omega)
            · have hz : True := trivial
              clear hz
              by_cases hb : s[i].toNat = 109
              · have d1' : (48 : Int) ≤ (s[i].toNat : Int) := by omega
                have d2' : ¬ (s[i].toNat : Int) ≤ 57 := by omega
                have g100 : ((s[i].toNat : Int) == 100) = false := beq_eq_false_iff_ne.2 (by omega)
                have g104 : ((s[i].toNat : Int) == 104) = false := beq_eq_false_iff_ne.2 (by omega)
                have g109 : ((s[i].toNat : Int) == 109) = true := beq_iff_eq.2 (by omega)
                clear hd
                cases h with
                | false =>
                  have HV := Lib.hid (hgo.symm.trans (goP_noval hu hdn))
                  clear hgo hdn
                  go_wp2_with fail
                  refine (order16 _).mono ?_
                  rintro e wa ⟨rfl, hba, hca⟩
                  replace HP := Lib.hid (HP.out.next hba)
                  have hg0 := HP.out.glob
                  have hc0 := cell_of_one HP.out.res
                  have hf0 := free_of_one HP.out.res
                  simp only []
                  go_wp2_with fail
                  have hcf := cell_of_one (one_setCell (u := .int .i64 0) HP.out.res)
                  go_region
                  all_goals go_wp2_with fail
                  all_goals refine bodyPost_ret (v := .tuple #[.agg #[.int .i64 0], .iface T x]) (by simp [results, Tryd.results11, go_sem, hcf]) rfl ?_
                  all_goals exact pend_err (HD.out.1 HV.out) (HP.out.bel.setCell (Nat.le_refl _) _).drew
                | true =>
                  by_cases hi1 : i + 1 < s.size
                  · by_cases hb1 : s[i + 1].toNat = 115
                    · rw [bs_get s (i + 1) hi1, goP_unit (k := 4) (r' := (bs s).drop (i + 1 + 1)) hu hdn (unitG_ms hb hb1)] at hgo
                      have g1 : ((s[i + 1].toNat : Int) == 115) = true := beq_iff_eq.2 (by omega)
                      have hi1' : ((i : Int) + 1 < (s.size : Int)) := by omega
                      rw [if_neg (by decide), show PD.size 4 = 1 from rfl] at hgo
                      have HG := Lib.hid hgo
                      clear hgo hdn
                      go_wp2_with fail
                      refine (order16 _).mono ?_
                      rintro e wa ⟨rfl, hba, hca⟩
                      replace HP := Lib.hid (HP.out.next hba)
                      have hg0 := HP.out.glob
                      have hc0 := cell_of_one HP.out.res
                      have hf0 := free_of_one HP.out.res
                      simp only []
                      go_wp2_with fail
                      go_loopw [12, 5] (fun ok u' wq => PW w (.iface T x) wq ∧ ((∃ q : Nat, ok = .bool false ∧ u' = .int .i64 q ∧ u ≤ q ∧ q ≤ 5 ∧ (u ≤ 4 → q ≤ 4)) ∨ (u ≤ 4 ∧ ok = .bool true ∧ u' = .int .i64 5))) (fun _ u' _ => 10 - (intOf u').toNat)
                      case atStart => exact ⟨HP.out, .inl ⟨u, rfl, rfl, Nat.le_refl _, by omega, fun h => h⟩⟩
                      case round =>
                        obtain ⟨hpq, hrel⟩ := hrel
                        replace HP := Lib.hid hpq
                        have hg0 := HP.out.glob
                        have hc0 := cell_of_one HP.out.res
                        have hf0 := free_of_one HP.out.res
                        clear hpq
                        rcases hrel with ⟨q, rfl, rfl, huq, hq5, hqk⟩ | ⟨huk, rfl, rfl⟩
                        · by_cases hq : q < 5
                          · clear hg0 hc0 hf0
                            by_cases hqe : q = 4
                            · subst hqe
                              have gq : (([109, 115] : List UInt8) == (uname 4).toList) = true := by rw [show (uname 4).toList = [109, 115] by rw [bsE]; rfl]; rfl
                              go_wp2_with fail
                              refine (order16 _).mono ?_
                              rintro e wa ⟨rfl, hba, hca⟩
                              replace HP := Lib.hid (HP.out.next hba)
                              have hg0 := HP.out.glob
                              have hc0 := cell_of_one HP.out.res
                              have hf0 := free_of_one HP.out.res
                              simp only []
                      
                              go_wp2_with fail
                              refine (order16 _).mono ?_
                              rintro e wa ⟨rfl, hba, hca⟩
                              replace HP := Lib.hid (HP.out.next hba)
                              have hg0 := HP.out.glob
                              have hc0 := cell_of_one HP.out.res
                              have hf0 := free_of_one HP.out.res
                              simp only []
                      
                              have hcq := hca 4 (by omega)
                              go_wp2_with fail
                              exact ⟨⟨HP.out, .inr ⟨by omega, rfl, rfl⟩⟩, by simp [intOf]⟩
                            · have gq : (([109, 115] : List UInt8) == (uname q).toList) = false := by have := un_ne 4 q (by omega) hq hqe; rwa [show (uname 4).toList = [109, 115] by rw [bsE]; rfl] at this
                              go_wp2_with fail
                              refine (order16 _).mono ?_
                              rintro e wa ⟨rfl, hba, hca⟩
                              replace HP := Lib.hid (HP.out.next hba)
                              have hg0 := HP.out.glob
                              have hc0 := cell_of_one HP.out.res
                              have hf0 := free_of_one HP.out.res
                              simp only []
                      
                              go_wp2_with fail
                              refine (order16 _).mono ?_
                              rintro e wa ⟨rfl, hba, hca⟩
                              replace HP := Lib.hid (HP.out.next hba)
                              have hg0 := HP.out.glob
                              have hc0 := cell_of_one HP.out.res
                              have hf0 := free_of_one HP.out.res
                              simp only []
                      
                              have hcq := hca q hq
                              go_wp2_with fail
                              exact ⟨⟨HP.out, .inl ⟨q + 1, rfl, by go_num, by omega, by omega, fun h => by have := hqk h; omega⟩⟩, by simp [intOf]; omega⟩
                          · have hq' : q = 5 := by omega
                            subst hq'
                            have HV := Lib.hid (HG.out.symm.trans (if_pos (show 4 < u by omega)))
                            clear hg0 hc0 hf0
                            go_wp2_with fail
                            refine (order16 _).mono ?_
                            rintro e wa ⟨rfl, hba, hca⟩
                            replace HP := Lib.hid (HP.out.next hba)
                            have hg0 := HP.out.glob
                            have hc0 := cell_of_one HP.out.res
                            have hf0 := free_of_one HP.out.res
                            simp only []
                      
                            go_wp2_with fail
                            have hcf := cell_of_one (one_setCell (u := .int .i64 0) HP.out.res)
                            go_region
                            all_goals go_wp2_with fail
                            all_goals refine bodyPost_ret (v := .tuple #[.agg #[.int .i64 0], .iface T x]) (by simp [results, Tryd.results11, go_sem, hcf]) rfl ?_
                            all_goals exact pend_err (HD.out.1 HV.out) (HP.out.bel.setCell (Nat.le_refl _) _).drew
                      
                        · have hgo := HG.out
                          rw [if_neg (by omega)] at hgo
                          by_cases hm1 : PD.mx < v * 1
                          · rw [if_pos hm1] at hgo
                            have HV := Lib.hid hgo.symm
                            have gm1 : (9223372036854775807 : Int) < (v : Int) := by unfold PD.mx at hm1; omega
                            clear hgo hm1 hg0 hc0 hf0
                            go_wp2_with fail
                            refine (sizes17 _).mono ?_
                            rintro e wm ⟨rfl, hbm, hown⟩
                            replace HP := Lib.hid (HP.out.next hbm)
                            have hg0 := HP.out.glob
                            have hc0 := cell_of_one HP.out.res
                            have hf0 := free_of_one HP.out.res
                            simp only []
                            go_wp2_with (at_lookup; refine wpList_lookup_own_int _ (by rfl) _ _ 49 (by rfl) 9 2 .i64 keyed9 Tryd.underlying49 Tryd.underlying2 (zero2 _) wr.heap.size 5 sizes5 (by rfl) hown _ (.string [109, 115]) (by rfl) (key_ms) ?_; intro c hat hwc; obtain rfl := at_lit (at5_4) hat; clear hat hwc)
                      
                            have hcf := cell_of_one (one_setCell (u := .int .i64 0) HP.out.res)
                            go_region
                            all_goals go_wp2_with fail
                            all_goals refine bodyPost_ret (v := .tuple #[.agg #[.int .i64 0], .iface T x]) (by simp [results, Tryd.results11, go_sem, hcf]) rfl ?_
                            all_goals exact pend_err (HD.out.1 HV.out) (HP.out.bel.setCell (Nat.le_refl _) _).drew
                      
                          · rw [if_neg hm1] at hgo
                            have gm1 : ¬ (9223372036854775807 : Int) < (v : Int) := by unfold PD.mx at hm1; omega
                            have gm2 : (v : Int) ≤ 9223372036854775807 := by unfold PD.mx at hm1; omega
                            by_cases hm2 : PD.mx < tot + v * 1
                            · rw [if_pos hm2] at hgo
                              have HV := Lib.hid hgo.symm
                              have gm3 : 9223372036854775807 - (v : Int) < (tot : Int) := by unfold PD.mx at hm2; omega
                              clear hgo hm1 hm2 hg0 hc0 hf0
                              go_wp2_with fail
                              refine (sizes17 _).mono ?_
                              rintro e wm ⟨rfl, hbm, hown⟩
                              replace HP := Lib.hid (HP.out.next hbm)
                              have hg0 := HP.out.glob
                              have hc0 := cell_of_one HP.out.res
                              have hf0 := free_of_one HP.out.res
                              simp only []
                              go_wp2_with (at_lookup; refine wpList_lookup_own_int _ (by rfl) _ _ 49 (by rfl) 9 2 .i64 keyed9 Tryd.underlying49 Tryd.underlying2 (zero2 _) wr.heap.size 5 sizes5 (by rfl) hown _ (.string [109, 115]) (by rfl) (key_ms) ?_; intro c hat hwc; obtain rfl := at_lit (at5_4) hat; clear hat hwc)
                      
                              have hcf := cell_of_one (one_setCell (u := .int .i64 0) HP.out.res)
                              go_region
                              all_goals go_wp2_with fail
                              all_goals refine bodyPost_ret (v := .tuple #[.agg #[.int .i64 0], .iface T x]) (by simp [results, Tryd.results11, go_sem, hcf]) rfl ?_
                              all_goals exact pend_err (HD.out.1 HV.out) (HP.out.bel.setCell (Nat.le_refl _) _).drew
                      
                            · rw [if_neg hm2] at hgo
                              have HV := Lib.hid hgo
                              have gm3 : ¬ 9223372036854775807 - (v : Int) < (tot : Int) := by unfold PD.mx at hm2; omega
                              have gm4 : tot + v * 1 ≤ 9223372036854775807 := by unfold PD.mx at hm2; omega
                              clear hgo hm1 hm2 hg0 hc0 hf0
                              go_wp2_with fail
                              refine (sizes17 _).mono ?_
                              rintro e wm ⟨rfl, hbm, hown⟩
                              replace HP := Lib.hid (HP.out.next hbm)
                              have hg0 := HP.out.glob
                              have hc0 := cell_of_one HP.out.res
                              have hf0 := free_of_one HP.out.res
                              simp only []
                              go_wp2_with (at_lookup; refine wpList_lookup_own_int _ (by rfl) _ _ 49 (by rfl) 9 2 .i64 keyed9 Tryd.underlying49 Tryd.underlying2 (zero2 _) wr.heap.size 5 sizes5 (by rfl) hown _ (.string [109, 115]) (by rfl) (key_ms) ?_; intro c hat hwc; obtain rfl := at_lit (at5_4) hat; clear hat hwc)
                      
                              refine ⟨⟨i + 2, 5, tot + v * 1, 0, false, ?_, rfl, ?_, rfl, rfl, by omega, by omega, gm4, by omega, HV.out, HP.out⟩, by simp [intOf]; omega⟩
                              · first | (congr 1; done) | (congr 1; omega)
                              · first | (congr 1; done) | (congr 1; omega)
                    · rw [goP_unit (k := 2) (r' := (bs s).drop (i + 1)) hu hdn (unitG_one (by rw [byteEq (c := 109) hb]; rfl) (fun e => by have := e.2; rw [bs_get s (i + 1) hi1] at this; injection this with this; exact hb1 (by rw [this]; rfl)))] at hgo
                      have g1 : ((s[i + 1].toNat : Int) == 115) = false := beq_eq_false_iff_ne.2 (by omega)
                      have hi1' : ((i : Int) + 1 < (s.size : Int)) := by omega
                      rw [if_neg (by decide), show PD.size 2 = 60000 from rfl] at hgo
                      have hnm : s.extract i (i + 1) = ⟨#[109]⟩ := ext_one s i hlt (byteEq (c := 109) hb)
                      have HN := Lib.hid hnm
                      clear hnm
                      have HG := Lib.hid hgo
                      clear hgo hdn
                      go_wp2_with fail
                      refine (order16 _).mono ?_
                      rintro e wa ⟨rfl, hba, hca⟩
                      replace HP := Lib.hid (HP.out.next hba)
                      have hg0 := HP.out.glob
                      have hc0 := cell_of_one HP.out.res
                      have hf0 := free_of_one HP.out.res
                      simp only []
                      go_wp2_with fail
                      go_loopw [12, 5] (fun ok u' wq => PW w (.iface T x) wq ∧ ((∃ q : Nat, ok = .bool false ∧ u' = .int .i64 q ∧ u ≤ q ∧ q ≤ 5 ∧ (u ≤ 2 → q ≤ 2)) ∨ (u ≤ 2 ∧ ok = .bool true ∧ u' = .int .i64 3))) (fun _ u' _ => 10 - (intOf u').toNat)
                      case atStart => exact ⟨HP.out, .inl ⟨u, rfl, rfl, Nat.le_refl _, by omega, fun h => h⟩⟩
                      case round =>
                        obtain ⟨hpq, hrel⟩ := hrel
                        replace HP := Lib.hid hpq
                        have hg0 := HP.out.glob
                        have hc0 := cell_of_one HP.out.res
                        have hf0 := free_of_one HP.out.res
                        clear hpq
                        rcases hrel with ⟨q, rfl, rfl, huq, hq5, hqk⟩ | ⟨huk, rfl, rfl⟩
                        · by_cases hq : q < 5
                          · clear hg0 hc0 hf0
                            by_cases hqe : q = 2
                            · subst hqe
                              have gq : ((s.extract i (i + 1)).toList == (uname 2).toList) = true := by rw [HN.out]; exact un_eq 2
                              go_wp2_with fail
                              refine (order16 _).mono ?_
                              rintro e wa ⟨rfl, hba, hca⟩
                              replace HP := Lib.hid (HP.out.next hba)
                              have hg0 := HP.out.glob
                              have hc0 := cell_of_one HP.out.res
                              have hf0 := free_of_one HP.out.res
                              simp only []
                      
                              go_wp2_with fail
                              refine (order16 _).mono ?_
                              rintro e wa ⟨rfl, hba, hca⟩
                              replace HP := Lib.hid (HP.out.next hba)
                              have hg0 := HP.out.glob
                              have hc0 := cell_of_one HP.out.res
                              have hf0 := free_of_one HP.out.res
                              simp only []
                      
                              have hcq := hca 2 (by omega)
                              go_wp2_with fail
                              exact ⟨⟨HP.out, .inr ⟨by omega, rfl, rfl⟩⟩, by simp [intOf]⟩
                            · have gq : ((s.extract i (i + 1)).toList == (uname q).toList) = false := by rw [HN.out]; exact un_ne 2 q (by omega) hq hqe
                              go_wp2_with fail
                              refine (order16 _).mono ?_
                              rintro e wa ⟨rfl, hba, hca⟩
                              replace HP := Lib.hid (HP.out.next hba)
                              have hg0 := HP.out.glob
                              have hc0 := cell_of_one HP.out.res
                              have hf0 := free_of_one HP.out.res
                              simp only []
                      
                              go_wp2_with fail
                              refine (order16 _).mono ?_
                              rintro e wa ⟨rfl, hba, hca⟩
                              replace HP := Lib.hid (HP.out.next hba)
                              have hg0 := HP.out.glob
                              have hc0 := cell_of_one HP.out.res
                              have hf0 := free_of_one HP.out.res
                              simp only []
                      
                              have hcq := hca q hq
                              go_wp2_with fail
                              exact ⟨⟨HP.out, .inl ⟨q + 1, rfl, by go_num, by omega, by omega, fun h => by have := hqk h; omega⟩⟩, by simp [intOf]; omega⟩
                          · have hq' : q = 5 := by omega
                            subst hq'
                            have HV := Lib.hid (HG.out.symm.trans (if_pos (show 2 < u by omega)))
                            clear hg0 hc0 hf0
                            go_wp2_with fail
                            refine (order16 _).mono ?_
                            rintro e wa ⟨rfl, hba, hca⟩
                            replace HP := Lib.hid (HP.out.next hba)
                            have hg0 := HP.out.glob
                            have hc0 := cell_of_one HP.out.res
                            have hf0 := free_of_one HP.out.res
                            simp only []
                      
                            go_wp2_with fail
                            have hcf := cell_of_one (one_setCell (u := .int .i64 0) HP.out.res)
                            go_region
                            all_goals go_wp2_with fail
                            all_goals refine bodyPost_ret (v := .tuple #[.agg #[.int .i64 0], .iface T x]) (by simp [results, Tryd.results11, go_sem, hcf]) rfl ?_
                            all_goals exact pend_err (HD.out.1 HV.out) (HP.out.bel.setCell (Nat.le_refl _) _).drew
                      
                        · have hgo := HG.out
                          rw [if_neg (by omega)] at hgo
                          by_cases hm1 : PD.mx < v * 60000
                          · rw [if_pos hm1] at hgo
                            have HV := Lib.hid hgo.symm
                            have gm1 : (153722867280912 : Int) < (v : Int) := by unfold PD.mx at hm1; omega
                            clear hgo hm1 hg0 hc0 hf0
                            go_wp2_with fail
                            refine (sizes17 _).mono ?_
                            rintro e wm ⟨rfl, hbm, hown⟩
                            replace HP := Lib.hid (HP.out.next hbm)
                            have hg0 := HP.out.glob
                            have hc0 := cell_of_one HP.out.res
                            have hf0 := free_of_one HP.out.res
                            simp only []
                            go_wp2_with (at_lookup; refine wpList_lookup_own_int _ (by rfl) _ _ 49 (by rfl) 9 2 .i64 keyed9 Tryd.underlying49 Tryd.underlying2 (zero2 _) wr.heap.size 5 sizes5 (by rfl) hown _ (.string [109]) (by rfl) (by rw [HN.out]; exact Go.WideMaps.keyOf_string_mk Tryd.underlying9 (by decide)) ?_; intro c hat hwc; obtain rfl := at_lit (at5_2) hat; clear hat hwc)
                      
                            have hcf := cell_of_one (one_setCell (u := .int .i64 0) HP.out.res)
                            go_region
                            all_goals go_wp2_with fail
                            all_goals refine bodyPost_ret (v := .tuple #[.agg #[.int .i64 0], .iface T x]) (by simp [results, Tryd.results11, go_sem, hcf]) rfl ?_
                            all_goals exact pend_err (HD.out.1 HV.out) (HP.out.bel.setCell (Nat.le_refl _) _).drew
                      
                          · rw [if_neg hm1] at hgo
                            have gm1 : ¬ (153722867280912 : Int) < (v : Int) := by unfold PD.mx at hm1; omega
                            have gm2 : (v : Int) * 60000 ≤ 9223372036854775807 := by unfold PD.mx at hm1; omega
                            by_cases hm2 : PD.mx < tot + v * 60000
                            · rw [if_pos hm2] at hgo
                              have HV := Lib.hid hgo.symm
                              have gm3 : 9223372036854775807 - (v : Int) * 60000 < (tot : Int) := by unfold PD.mx at hm2; omega
                              clear hgo hm1 hm2 hg0 hc0 hf0
                              go_wp2_with fail
                              refine (sizes17 _).mono ?_
                              rintro e wm ⟨rfl, hbm, hown⟩
                              replace HP := Lib.hid (HP.out.next hbm)
                              have hg0 := HP.out.glob
                              have hc0 := cell_of_one HP.out.res
                              have hf0 := free_of_one HP.out.res
                              simp only []
                              go_wp2_with (at_lookup; refine wpList_lookup_own_int _ (by rfl) _ _ 49 (by rfl) 9 2 .i64 keyed9 Tryd.underlying49 Tryd.underlying2 (zero2 _) wr.heap.size 5 sizes5 (by rfl) hown _ (.string [109]) (by rfl) (by rw [HN.out]; exact Go.WideMaps.keyOf_string_mk Tryd.underlying9 (by decide)) ?_; intro c hat hwc; obtain rfl := at_lit (at5_2) hat; clear hat hwc)
                      
                              have hcf := cell_of_one (one_setCell (u := .int .i64 0) HP.out.res)
                              go_region
                              all_goals go_wp2_with fail
                              all_goals refine bodyPost_ret (v := .tuple #[.agg #[.int .i64 0], .iface T x]) (by simp [results, Tryd.results11, go_sem, hcf]) rfl ?_
                              all_goals exact pend_err (HD.out.1 HV.out) (HP.out.bel.setCell (Nat.le_refl _) _).drew
                      
                            · rw [if_neg hm2] at hgo
                              have HV := Lib.hid hgo
                              have gm3 : ¬ 9223372036854775807 - (v : Int) * 60000 < (tot : Int) := by unfold PD.mx at hm2; omega
                              have gm4 : tot + v * 60000 ≤ 9223372036854775807 := by unfold PD.mx at hm2; omega
                              clear hgo hm1 hm2 hg0 hc0 hf0
                              go_wp2_with fail
                              refine (sizes17 _).mono ?_
                              rintro e wm ⟨rfl, hbm, hown⟩
                              replace HP := Lib.hid (HP.out.next hbm)
                              have hg0 := HP.out.glob
                              have hc0 := cell_of_one HP.out.res
                              have hf0 := free_of_one HP.out.res
                              simp only []
                              go_wp2_with (at_lookup; refine wpList_lookup_own_int _ (by rfl) _ _ 49 (by rfl) 9 2 .i64 keyed9 Tryd.underlying49 Tryd.underlying2 (zero2 _) wr.heap.size 5 sizes5 (by rfl) hown _ (.string [109]) (by rfl) (by rw [HN.out]; exact Go.WideMaps.keyOf_string_mk Tryd.underlying9 (by decide)) ?_; intro c hat hwc; obtain rfl := at_lit (at5_2) hat; clear hat hwc)
                      
                              refine ⟨⟨i + 1, 3, tot + v * 60000, 0, false, ?_, rfl, ?_, rfl, rfl, by omega, by omega, gm4, by omega, HV.out, HP.out⟩, by simp [intOf]; omega⟩
                              · first | (congr 1; done) | (congr 1; omega)
                              · first | (congr 1; done) | (congr 1; omega)
                  · have hi1' : ¬ ((i : Int) + 1 < (s.size : Int)) := by omega
                    rw [goP_unit (k := 2) (r' := (bs s).drop (i + 1)) hu hdn (unitG_one (by rw [byteEq (c := 109) hb]; rfl) (fun e => by have := e.2; rw [List.drop_eq_nil_of_le (by rw [bs_len]; omega)] at this; cases this))] at hgo
                    rw [if_neg (by decide), show PD.size 2 = 60000 from rfl] at hgo
                    have hnm : s.extract i (i + 1) = ⟨#[109]⟩ := ext_one s i hlt (byteEq (c := 109) hb)
                    have HN := Lib.hid hnm
                    clear hnm
                    have HG := Lib.hid hgo
                    clear hgo hdn
                    go_wp2_with fail
                    refine (order16 _).mono ?_
                    rintro e wa ⟨rfl, hba, hca⟩
                    replace HP := Lib.hid (HP.out.next hba)
                    have hg0 := HP.out.glob
                    have hc0 := cell_of_one HP.out.res
                    have hf0 := free_of_one HP.out.res
                    simp only []
                    go_wp2_with fail
                    go_loopw [12, 5] (fun ok u' wq => PW w (.iface T x) wq ∧ ((∃ q : Nat, ok = .bool false ∧ u' = .int .i64 q ∧ u ≤ q ∧ q ≤ 5 ∧ (u ≤ 2 → q ≤ 2)) ∨ (u ≤ 2 ∧ ok = .bool true ∧ u' = .int .i64 3))) (fun _ u' _ => 10 - (intOf u').toNat)
                    case atStart => exact ⟨HP.out, .inl ⟨u, rfl, rfl, Nat.le_refl _, by omega, fun h => h⟩⟩
                    case round =>
                      obtain ⟨hpq, hrel⟩ := hrel
                      replace HP := Lib.hid hpq
                      have hg0 := HP.out.glob
                      have hc0 := cell_of_one HP.out.res
                      have hf0 := free_of_one HP.out.res
                      clear hpq
                      rcases hrel with ⟨q, rfl, rfl, huq, hq5, hqk⟩ | ⟨huk, rfl, rfl⟩
                      · by_cases hq : q < 5
                        · clear hg0 hc0 hf0
                          by_cases hqe : q = 2
                          · subst hqe
                            have gq : ((s.extract i (i + 1)).toList == (uname 2).toList) = true := by rw [HN.out]; exact un_eq 2
                            go_wp2_with fail
                            refine (order16 _).mono ?_
                            rintro e wa ⟨rfl, hba, hca⟩
                            replace HP := Lib.hid (HP.out.next hba)
                            have hg0 := HP.out.glob
                            have hc0 := cell_of_one HP.out.res
                            have hf0 := free_of_one HP.out.res
                            simp only []
                    
                            go_wp2_with fail
                            refine (order16 _).mono ?_
                            rintro e wa ⟨rfl, hba, hca⟩
                            replace HP := Lib.hid (HP.out.next hba)
                            have hg0 := HP.out.glob
                            have hc0 := cell_of_one HP.out.res
                            have hf0 := free_of_one HP.out.res
                            simp only []
                    
                            have hcq := hca 2 (by omega)
                            go_wp2_with fail
                            exact ⟨⟨HP.out, .inr ⟨by omega, rfl, rfl⟩⟩, by simp [intOf]⟩
                          · have gq : ((s.extract i (i + 1)).toList == (uname q).toList) = false := by rw [HN.out]; exact un_ne 2 q (by omega) hq hqe
                            go_wp2_with fail
                            refine (order16 _).mono ?_
                            rintro e wa ⟨rfl, hba, hca⟩
                            replace HP := Lib.hid (HP.out.next hba)
                            have hg0 := HP.out.glob
                            have hc0 := cell_of_one HP.out.res
                            have hf0 := free_of_one HP.out.res
                            simp only []
                    
                            go_wp2_with fail
                            refine (order16 _).mono ?_
                            rintro e wa ⟨rfl, hba, hca⟩
                            replace HP := Lib.hid (HP.out.next hba)
                            have hg0 := HP.out.glob
                            have hc0 := cell_of_one HP.out.res
                            have hf0 := free_of_one HP.out.res
                            simp only []
                    
                            have hcq := hca q hq
                            go_wp2_with fail
                            exact ⟨⟨HP.out, .inl ⟨q + 1, rfl, by go_num, by omega, by omega, fun h => by have := hqk h; omega⟩⟩, by simp [intOf]; omega⟩
                        · have hq' : q = 5 := by omega
                          subst hq'
                          have HV := Lib.hid (HG.out.symm.trans (if_pos (show 2 < u by omega)))
                          clear hg0 hc0 hf0
                          go_wp2_with fail
                          refine (order16 _).mono ?_
                          rintro e wa ⟨rfl, hba, hca⟩
                          replace HP := Lib.hid (HP.out.next hba)
                          have hg0 := HP.out.glob
                          have hc0 := cell_of_one HP.out.res
                          have hf0 := free_of_one HP.out.res
                          simp only []
                    
                          go_wp2_with fail
                          have hcf := cell_of_one (one_setCell (u := .int .i64 0) HP.out.res)
                          go_region
                          all_goals go_wp2_with fail
                          all_goals refine bodyPost_ret (v := .tuple #[.agg #[.int .i64 0], .iface T x]) (by simp [results, Tryd.results11, go_sem, hcf]) rfl ?_
                          all_goals exact pend_err (HD.out.1 HV.out) (HP.out.bel.setCell (Nat.le_refl _) _).drew
                    
                      · have hgo := HG.out
                        rw [if_neg (by omega)] at hgo
                        by_cases hm1 : PD.mx < v * 60000
                        · rw [if_pos hm1] at hgo
                          have HV := Lib.hid hgo.symm
                          have gm1 : (153722867280912 : Int) < (v : Int) := by unfold PD.mx at hm1; omega
                          clear hgo hm1 hg0 hc0 hf0
                          go_wp2_with fail
                          refine (sizes17 _).mono ?_
                          rintro e wm ⟨rfl, hbm, hown⟩
                          replace HP := Lib.hid (HP.out.next hbm)
                          have hg0 := HP.out.glob
                          have hc0 := cell_of_one HP.out.res
                          have hf0 := free_of_one HP.out.res
                          simp only []
                          go_wp2_with (at_lookup; refine wpList_lookup_own_int _ (by rfl) _ _ 49 (by rfl) 9 2 .i64 keyed9 Tryd.underlying49 Tryd.underlying2 (zero2 _) wr.heap.size 5 sizes5 (by rfl) hown _ (.string [109]) (by rfl) (by rw [HN.out]; exact Go.WideMaps.keyOf_string_mk Tryd.underlying9 (by decide)) ?_; intro c hat hwc; obtain rfl := at_lit (at5_2) hat; clear hat hwc)
                    
                          have hcf := cell_of_one (one_setCell (u := .int .i64 0) HP.out.res)
                          go_region
                          all_goals go_wp2_with fail
                          all_goals refine bodyPost_ret (v := .tuple #[.agg #[.int .i64 0], .iface T x]) (by simp [results, Tryd.results11, go_sem, hcf]) rfl ?_
                          all_goals exact pend_err (HD.out.1 HV.out) (HP.out.bel.setCell (Nat.le_refl _) _).drew
                    
                        · rw [if_neg hm1] at hgo
                          have gm1 : ¬ (153722867280912 : Int) < (v : Int) := by unfold PD.mx at hm1; omega
                          have gm2 : (v : Int) * 60000 ≤ 9223372036854775807 := by unfold PD.mx at hm1; omega
                          by_cases hm2 : PD.mx < tot + v * 60000
                          · rw [if_pos hm2] at hgo
                            have HV := Lib.hid hgo.symm
                            have gm3 : 9223372036854775807 - (v : Int) * 60000 < (tot : Int) := by unfold PD.mx at hm2; omega
                            clear hgo hm1 hm2 hg0 hc0 hf0
                            go_wp2_with fail
                            refine (sizes17 _).mono ?_
                            rintro e wm ⟨rfl, hbm, hown⟩
                            replace HP := Lib.hid (HP.out.next hbm)
                            have hg0 := HP.out.glob
                            have hc0 := cell_of_one HP.out.res
                            have hf0 := free_of_one HP.out.res
                            simp only []
                            go_wp2_with (at_lookup; refine wpList_lookup_own_int _ (by rfl) _ _ 49 (by rfl) 9 2 .i64 keyed9 Tryd.underlying49 Tryd.underlying2 (zero2 _) wr.heap.size 5 sizes5 (by rfl) hown _ (.string [109]) (by rfl) (by rw [HN.out]; exact Go.WideMaps.keyOf_string_mk Tryd.underlying9 (by decide)) ?_; intro c hat hwc; obtain rfl := at_lit (at5_2) hat; clear hat hwc)
                    
                            have hcf := cell_of_one (one_setCell (u := .int .i64 0) HP.out.res)
                            go_region
                            all_goals go_wp2_with fail
                            all_goals refine bodyPost_ret (v := .tuple #[.agg #[.int .i64 0], .iface T x]) (by simp [results, Tryd.results11, go_sem, hcf]) rfl ?_
                            all_goals exact pend_err (HD.out.1 HV.out) (HP.out.bel.setCell (Nat.le_refl _) _).drew
                    
                          · rw [if_neg hm2] at hgo
                            have HV := Lib.hid hgo
                            have gm3 : ¬ 9223372036854775807 - (v : Int) * 60000 < (tot : Int) := by unfold PD.mx at hm2; omega
                            have gm4 : tot + v * 60000 ≤ 9223372036854775807 := by unfold PD.mx at hm2; omega
                            clear hgo hm1 hm2 hg0 hc0 hf0
                            go_wp2_with fail
                            refine (sizes17 _).mono ?_
                            rintro e wm ⟨rfl, hbm, hown⟩
                            replace HP := Lib.hid (HP.out.next hbm)
                            have hg0 := HP.out.glob
                            have hc0 := cell_of_one HP.out.res
                            have hf0 := free_of_one HP.out.res
                            simp only []
                            go_wp2_with (at_lookup; refine wpList_lookup_own_int _ (by rfl) _ _ 49 (by rfl) 9 2 .i64 keyed9 Tryd.underlying49 Tryd.underlying2 (zero2 _) wr.heap.size 5 sizes5 (by rfl) hown _ (.string [109]) (by rfl) (by rw [HN.out]; exact Go.WideMaps.keyOf_string_mk Tryd.underlying9 (by decide)) ?_; intro c hat hwc; obtain rfl := at_lit (at5_2) hat; clear hat hwc)
                    
                            refine ⟨⟨i + 1, 3, tot + v * 60000, 0, false, ?_, rfl, ?_, rfl, rfl, by omega, by omega, gm4, by omega, HV.out, HP.out⟩, by simp [intOf]; omega⟩
                            · first | (congr 1; done) | (congr 1; omega)
                            · first | (congr 1; done) | (congr 1; omega)
              · have hz : True := trivial
                clear hz
                by_cases hb : s[i].toNat = 115
                · have d1' : (48 : Int) ≤ (s[i].toNat : Int) := by omega
                  have d2' : ¬ (s[i].toNat : Int) ≤ 57 := by omega
                  have g100 : ((s[i].toNat : Int) == 100) = false := beq_eq_false_iff_ne.2 (by omega)
                  have g104 : ((s[i].toNat : Int) == 104) = false := beq_eq_false_iff_ne.2 (by omega)
                  have g109 : ((s[i].toNat : Int) == 109) = false := beq_eq_false_iff_ne.2 (by omega)
                  have g115 : ((s[i].toNat : Int) == 115) = true := beq_iff_eq.2 (by omega)
                  clear hd
                  cases h with
                  | false =>
                    have HV := Lib.hid (hgo.symm.trans (goP_noval hu hdn))
                    clear hgo hdn
                    go_wp2_with fail
                    refine (order16 _).mono ?_
                    rintro e wa ⟨rfl, hba, hca⟩
                    replace HP := Lib.hid (HP.out.next hba)
                    have hg0 := HP.out.glob
                    have hc0 := cell_of_one HP.out.res
                    have hf0 := free_of_one HP.out.res
                    simp only []
                    go_wp2_with fail
                    have hcf := cell_of_one (one_setCell (u := .int .i64 0) HP.out.res)
                    go_region
                    all_goals go_wp2_with fail
                    all_goals refine bodyPost_ret (v := .tuple #[.agg #[.int .i64 0], .iface T x]) (by simp [results, Tryd.results11, go_sem, hcf]) rfl ?_
                    all_goals exact pend_err (HD.out.1 HV.out) (HP.out.bel.setCell (Nat.le_refl _) _).drew
                  | true =>
                    rw [goP_unit (k := 3) (r' := (bs s).drop (i + 1)) hu hdn (unitG_one (by rw [byteEq (c := 115) hb]; rfl) (fun e => by have := congrArg UInt8.toNat e.1; rw [hb] at this; exact absurd this (by decide)))] at hgo
                    rw [if_neg (by decide), show PD.size 3 = 1000 from rfl] at hgo
                    have hnm : s.extract i (i + 1) = ⟨#[115]⟩ := ext_one s i hlt (byteEq (c := 115) hb)
                    have HN := Lib.hid hnm
                    clear hnm
                    have HG := Lib.hid hgo
                    clear hgo hdn
                    go_wp2_with fail
                    refine (order16 _).mono ?_
                    rintro e wa ⟨rfl, hba, hca⟩
                    replace HP := Lib.hid (HP.out.next hba)
                    have hg0 := HP.out.glob
                    have hc0 := cell_of_one HP.out.res
                    have hf0 := free_of_one HP.out.res
                    simp only []
                    go_wp2_with fail
                    go_loopw [12, 5] (fun ok u' wq => PW w (.iface T x) wq ∧ ((∃ q : Nat, ok = .bool false ∧ u' = .int .i64 q ∧ u ≤ q ∧ q ≤ 5 ∧ (u ≤ 3 → q ≤ 3)) ∨ (u ≤ 3 ∧ ok = .bool true ∧ u' = .int .i64 4))) (fun _ u' _ => 10 - (intOf u').toNat)
                    case atStart => exact ⟨HP.out, .inl ⟨u, rfl, rfl, Nat.le_refl _, by omega, fun h => h⟩⟩
                    case round =>
                      obtain ⟨hpq, hrel⟩ := hrel
                      replace HP := Lib.hid hpq
                      have hg0 := HP.out.glob
                      have hc0 := cell_of_one HP.out.res
                      have hf0 := free_of_one HP.out.res
                      clear hpq
                      rcases hrel with ⟨q, rfl, rfl, huq, hq5, hqk⟩ | ⟨huk, rfl, rfl⟩
                      · by_cases hq : q < 5
                        · clear hg0 hc0 hf0
                          by_cases hqe : q = 3
                          · subst hqe
                            have gq : ((s.extract i (i + 1)).toList == (uname 3).toList) = true := by rw [HN.out]; exact un_eq 3
                            go_wp2_with fail
                            refine (order16 _).mono ?_
                            rintro e wa ⟨rfl, hba, hca⟩
                            replace HP := Lib.hid (HP.out.next hba)
                            have hg0 := HP.out.glob
                            have hc0 := cell_of_one HP.out.res
                            have hf0 := free_of_one HP.out.res
                            simp only []
                    
                            go_wp2_with fail
                            refine (order16 _).mono ?_
                            rintro e wa ⟨rfl, hba, hca⟩
                            replace HP := Lib.hid (HP.out.next hba)
                            have hg0 := HP.out.glob
                            have hc0 := cell_of_one HP.out.res
                            have hf0 := free_of_one HP.out.res
                            simp only []
                    
                            have hcq := hca 3 (by omega)
                            go_wp2_with fail
                            exact ⟨⟨HP.out, .inr ⟨by omega, rfl, rfl⟩⟩, by simp [intOf]⟩
                          · have gq : ((s.extract i (i + 1)).toList == (uname q).toList) = false := by rw [HN.out]; exact un_ne 3 q (by omega) hq hqe
                            go_wp2_with fail
                            refine (order16 _).mono ?_
                            rintro e wa ⟨rfl, hba, hca⟩
                            replace HP := Lib.hid (HP.out.next hba)
                            have hg0 := HP.out.glob
                            have hc0 := cell_of_one HP.out.res
                            have hf0 := free_of_one HP.out.res
                            simp only []
                    
                            go_wp2_with fail
                            refine (order16 _).mono ?_
                            rintro e wa ⟨rfl, hba, hca⟩
                            replace HP := Lib.hid (HP.out.next hba)
                            have hg0 := HP.out.glob
                            have hc0 := cell_of_one HP.out.res
                            have hf0 := free_of_one HP.out.res
                            simp only []
                    
                            have hcq := hca q hq
                            go_wp2_with fail
                            exact ⟨⟨HP.out, .inl ⟨q + 1, rfl, by go_num, by omega, by omega, fun h => by have := hqk h; omega⟩⟩, by simp [intOf]; omega⟩
                        · have hq' : q = 5 := by omega
                          subst hq'
                          have HV := Lib.hid (HG.out.symm.trans (if_pos (show 3 < u by omega)))
                          clear hg0 hc0 hf0
                          go_wp2_with fail
                          refine (order16 _).mono ?_
                          rintro e wa ⟨rfl, hba, hca⟩
                          replace HP := Lib.hid (HP.out.next hba)
                          have hg0 := HP.out.glob
                          have hc0 := cell_of_one HP.out.res
                          have hf0 := free_of_one HP.out.res
                          simp only []
                    
                          go_wp2_with fail
                          have hcf := cell_of_one (one_setCell (u := .int .i64 0) HP.out.res)
                          go_region
                          all_goals go_wp2_with fail
                          all_goals refine bodyPost_ret (v := .tuple #[.agg #[.int .i64 0], .iface T x]) (by simp [results, Tryd.results11, go_sem, hcf]) rfl ?_
                          all_goals exact pend_err (HD.out.1 HV.out) (HP.out.bel.setCell (Nat.le_refl _) _).drew
                    
                      · have hgo := HG.out
                        rw [if_neg (by omega)] at hgo
                        by_cases hm1 : PD.mx < v * 1000
                        · rw [if_pos hm1] at hgo
                          have HV := Lib.hid hgo.symm
                          have gm1 : (9223372036854775 : Int) < (v : Int) := by unfold PD.mx at hm1; omega
                          clear hgo hm1 hg0 hc0 hf0
                          go_wp2_with fail
                          refine (sizes17 _).mono ?_
                          rintro e wm ⟨rfl, hbm, hown⟩
                          replace HP := Lib.hid (HP.out.next hbm)
                          have hg0 := HP.out.glob
                          have hc0 := cell_of_one HP.out.res
                          have hf0 := free_of_one HP.out.res
                          simp only []
                          go_wp2_with (at_lookup; refine wpList_lookup_own_int _ (by rfl) _ _ 49 (by rfl) 9 2 .i64 keyed9 Tryd.underlying49 Tryd.underlying2 (zero2 _) wr.heap.size 5 sizes5 (by rfl) hown _ (.string [115]) (by rfl) (by rw [HN.out]; exact Go.WideMaps.keyOf_string_mk Tryd.underlying9 (by decide)) ?_; intro c hat hwc; obtain rfl := at_lit (at5_3) hat; clear hat hwc)
                    
                          have hcf := cell_of_one (one_setCell (u := .int .i64 0) HP.out.res)
                          go_region
                          all_goals go_wp2_with fail
                          all_goals refine bodyPost_ret (v := .tuple #[.agg #[.int .i64 0], .iface T x]) (by simp [results, Tryd.results11, go_sem, hcf]) rfl ?_
                          all_goals exact pend_err (HD.out.1 HV.out) (HP.out.bel.setCell (Nat.le_refl _) _).drew
                    
                        · rw [if_neg hm1] at hgo
                          have gm1 : ¬ (9223372036854775 : Int) < (v : Int) := by unfold PD.mx at hm1; omega
                          have gm2 : (v : Int) * 1000 ≤ 9223372036854775807 := by unfold PD.mx at hm1; omega
                          by_cases hm2 : PD.mx < tot + v * 1000
                          · rw [if_pos hm2] at hgo
                            have HV := Lib.hid hgo.symm
                            have gm3 : 9223372036854775807 - (v : Int) * 1000 < (tot : Int) := by unfold PD.mx at hm2; omega
                            clear hgo hm1 hm2 hg0 hc0 hf0
                            go_wp2_with fail
                            refine (sizes17 _).mono ?_
                            rintro e wm ⟨rfl, hbm, hown⟩
                            replace HP := Lib.hid (HP.out.next hbm)
                            have hg0 := HP.out.glob
                            have hc0 := cell_of_one HP.out.res
                            have hf0 := free_of_one HP.out.res
                            simp only []
                            go_wp2_with (at_lookup; refine wpList_lookup_own_int _ (by rfl) _ _ 49 (by rfl) 9 2 .i64 keyed9 Tryd.underlying49 Tryd.underlying2 (zero2 _) wr.heap.size 5 sizes5 (by rfl) hown _ (.string [115]) (by rfl) (by rw [HN.out]; exact Go.WideMaps.keyOf_string_mk Tryd.underlying9 (by decide)) ?_; intro c hat hwc; obtain rfl := at_lit (at5_3) hat; clear hat hwc)
                    
                            have hcf := cell_of_one (one_setCell (u := .int .i64 0) HP.out.res)
                            go_region
                            all_goals go_wp2_with fail
                            all_goals refine bodyPost_ret (v := .tuple #[.agg #[.int .i64 0], .iface T x]) (by simp [results, Tryd.results11, go_sem, hcf]) rfl ?_
                            all_goals exact pend_err (HD.out.1 HV.out) (HP.out.bel.setCell (Nat.le_refl _) _).drew
                    
                          · rw [if_neg hm2] at hgo
                            have HV := Lib.hid hgo
                            have gm3 : ¬ 9223372036854775807 - (v : Int) * 1000 < (tot : Int) := by unfold PD.mx at hm2; omega
                            have gm4 : tot + v * 1000 ≤ 9223372036854775807 := by unfold PD.mx at hm2; omega
                            clear hgo hm1 hm2 hg0 hc0 hf0
                            go_wp2_with fail
                            refine (sizes17 _).mono ?_
                            rintro e wm ⟨rfl, hbm, hown⟩
                            replace HP := Lib.hid (HP.out.next hbm)
                            have hg0 := HP.out.glob
                            have hc0 := cell_of_one HP.out.res
                            have hf0 := free_of_one HP.out.res
                            simp only []
                            go_wp2_with (at_lookup; refine wpList_lookup_own_int _ (by rfl) _ _ 49 (by rfl) 9 2 .i64 keyed9 Tryd.underlying49 Tryd.underlying2 (zero2 _) wr.heap.size 5 sizes5 (by rfl) hown _ (.string [115]) (by rfl) (by rw [HN.out]; exact Go.WideMaps.keyOf_string_mk Tryd.underlying9 (by decide)) ?_; intro c hat hwc; obtain rfl := at_lit (at5_3) hat; clear hat hwc)
                    
                            refine ⟨⟨i + 1, 4, tot + v * 1000, 0, false, ?_, rfl, ?_, rfl, rfl, by omega, by omega, gm4, by omega, HV.out, HP.out⟩, by simp [intOf]; omega⟩
                            · first | (congr 1; done) | (congr 1; omega)
                            · first | (congr 1; done) | (congr 1; omega)
                · have hz : True := trivial
                  clear hz
                  have HV := Lib.hid (hgo.symm.trans (goP_other hu hdn ‹_› ‹_› ‹_› ‹_›))
                  have g100 : ((s[i].toNat : Int) == 100) = false := beq_eq_false_iff_ne.2 (by omega)
                  have g104 : ((s[i].toNat : Int) == 104) = false := beq_eq_false_iff_ne.2 (by omega)
                  have g109 : ((s[i].toNat : Int) == 109) = false := beq_eq_false_iff_ne.2 (by omega)
                  have g115 : ((s[i].toNat : Int) == 115) = false := beq_eq_false_iff_ne.2 (by omega)
                  clear hgo hdn
                  by_cases d1 : 48 ≤ s[i].toNat
                  · have d1' : (48 : Int) ≤ (s[i].toNat : Int) := by omega
                    have d2' : ¬ (s[i].toNat : Int) ≤ 57 := by omega
                    clear hd d1
                    go_wp2_with fail
                    refine (order16 _).mono ?_
                    rintro e wa ⟨rfl, hba, hca⟩
                    replace HP := Lib.hid (HP.out.next hba)
                    have hg0 := HP.out.glob
                    have hc0 := cell_of_one HP.out.res
                    have hf0 := free_of_one HP.out.res
                    simp only []
                    go_wp2_with fail
                    have hcf := cell_of_one (one_setCell (u := .int .i64 0) HP.out.res)
                    go_region
                    all_goals go_wp2_with fail
                    all_goals refine bodyPost_ret (v := .tuple #[.agg #[.int .i64 0], .iface T x]) (by simp [results, Tryd.results11, go_sem, hcf]) rfl ?_
                    all_goals exact pend_err (HD.out.1 HV.out) (HP.out.bel.setCell (Nat.le_refl _) _).drew
                  · have d1' : ¬ (48 : Int) ≤ (s[i].toNat : Int) := by omega
                    clear hd d1
                    go_wp2_with fail
                    refine (order16 _).mono ?_
                    rintro e wa ⟨rfl, hba, hca⟩
                    replace HP := Lib.hid (HP.out.next hba)
                    have hg0 := HP.out.glob
                    have hc0 := cell_of_one HP.out.res
                    have hf0 := free_of_one HP.out.res
                    simp only []
                    go_wp2_with fail
                    have hcf := cell_of_one (one_setCell (u := .int .i64 0) HP.out.res)
                    go_region
                    all_goals go_wp2_with fail
                    all_goals refine bodyPost_ret (v := .tuple #[.agg #[.int .i64 0], .iface T x]) (by simp [results, Tryd.results11, go_sem, hcf]) rfl ?_
                    all_goals exact pend_err (HD.out.1 HV.out) (HP.out.bel.setCell (Nat.le_refl _) _).drew
      · have HV := Lib.hid (hgo.symm.trans (goP_full (by omega)))
        have hu' : u = 5 := by omega
        subst hu'
        clear hgo
        cases h with
        | true =>
          clear hg0 hc0 hf0
          go_wp2_with fail
          refine (order16 _).mono ?_
          rintro e wa ⟨rfl, hba, hca⟩
          replace HP := Lib.hid (HP.out.next hba)
          have hg0 := HP.out.glob
          have hc0 := cell_of_one HP.out.res
          have hf0 := free_of_one HP.out.res
          simp only []

          go_wp2_with fail
          have hcf := cell_of_one (one_setCell (u := .int .i64 0) HP.out.res)
          go_region
          all_goals go_wp2_with fail
          all_goals refine bodyPost_ret (v := .tuple #[.agg #[.int .i64 0], .iface T x]) (by simp [results, Tryd.results11, go_sem, hcf]) rfl ?_
          all_goals exact pend_err (HD.out.1 HV.out) (HP.out.bel.setCell (Nat.le_refl _) _).drew

        | false =>
          clear hg0 hc0 hf0
          go_wp2_with fail
          refine (order16 _).mono ?_
          rintro e wa ⟨rfl, hba, hca⟩
          replace HP := Lib.hid (HP.out.next hba)
          have hg0 := HP.out.glob
          have hc0 := cell_of_one HP.out.res
          have hf0 := free_of_one HP.out.res
          simp only []

          go_wp2_with fail
          have hcf := cell_of_one (one_setCell (u := .int .i64 0) HP.out.res)
          go_region
          all_goals go_wp2_with fail
          all_goals refine bodyPost_ret (v := .tuple #[.agg #[.int .i64 0], .iface T x]) (by simp [results, Tryd.results11, go_sem, hcf]) rfl ?_
          all_goals exact pend_err (HD.out.1 HV.out) (HP.out.bel.setCell (Nat.le_refl _) _).drew

    · rw [List.drop_eq_nil_of_le (by rw [bs_len]; omega), PD.goP_nil] at hgo
      cases h with
      | true =>
        have HV := Lib.hid hgo.symm
        clear hgo
        go_wp2_with fail
        have hcf := cell_of_one (one_setCell (u := .int .i64 0) HP.out.res)
        go_region
        all_goals go_wp2_with fail
        all_goals refine bodyPost_ret (v := .tuple #[.agg #[.int .i64 0], .iface T x]) (by simp [results, Tryd.results11, go_sem, hcf]) rfl ?_
        all_goals exact pend_err (HD.out.1 HV.out) (HP.out.bel.setCell (Nat.le_refl _) _).drew

      | false =>
        have HV := Lib.hid (HD.out.2 tot hgo.symm)
        clear hgo
        have hcf := cell_of_one (one_setCell (u := .int .i64 (sgn true tot)) HP.out.res)
        rw [show sgn true tot = -(tot : Int) from rfl] at hcf
        go_wp2_with fail
        refine bodyPost_ret (v := .tuple #[.agg #[.int .i64 (sgn true tot)], .nilIface]) (by simp [results, Tryd.results11, go_sem, hcf, sgn]) rfl ?_
        exact pend_ok HV.out (HP.out.bel.setCell (Nat.le_refl _) _)

end Go.Proofs.YthbdcekcockhfaaDoor.Dur
