/-
  WALKS of the durations' laws, third part: ParseDuration of both sides; FnDurationParses.
-/
import Derived.Test.YthbdcekcockhfaaDoorFP
import Derived.Test.YthbdcekcockhfaaDoorFN
import Derived.Deep.RegionWith
namespace Go.Proofs.YthbdcekcockhfaaDoor.Dur
open Go.RowKit Go.ChangeMaps

theorem goP_one (c : UInt8) : PD.goP 0 0 0 false [c] = none := by
  cases hd : PD.dig c with
  | true =>
    by_cases hv : 9223372036854775807 < 0 * 10 + (c.toNat - 48)
    · exact goP_dig_no (by omega) hd hv
    · rw [goP_dig (by omega) hd hv, PD.goP_nil]; rfl
  | false => exact goP_noval (by omega) hd

theorem durO_short (s : List UInt8) (h : s.length ≤ 1) : durO s = none := by
  match s, h with
  | [], _ => rfl
  | [c], _ =>
    unfold durO
    by_cases hc : c = 45
    · subst hc; rfl
    · rw [cut_plain (by simpa using hc)]
      simp only
      rw [if_neg (by simp), goP_one]
      rfl

theorem parse11 (s : ByteArray) (w : World) (T : TypeId) (x : Value) (hE : w.cell? ⟨0, 0, none⟩ = some (.iface T x)) (h0 : 0 < w.heap.size) (hsz : s.size ≤ 1000000) :
    Calls Tryd.prog 11 #[.string s] w (PEnd w (.iface T x) (bs s)) := by
  by_cases h1 : s.size ≤ 1
  · exact parse11_short s w T x hE h0 h1 (durO_short _ (by rw [bs_len]; exact h1))
  · have hs : 1 < s.size := by omega
    by_cases hb : s[0].toNat = 45
    · have hc : cut (bs s) = (true, (bs s).drop 1) := by rw [bs_head (s := s) (by omega), byte45 hb, cut_minus]; rfl
      have hne : (bs s).drop 1 ≠ [] := fun e => by have := congrArg List.length e; rw [List.length_drop, bs_len] at this; simp at this; omega
      refine parse11_neg s w T x _ hE h0 hs hsz hb rfl ⟨fun h => ?_, fun m h => ?_⟩ <;>
      · unfold durO
        rw [hc]
        simp only
        rw [if_neg hne, h]
        rfl
    · have hc : cut (bs s) = (false, bs s) := by
        refine cut_plain ?_; rw [bs_head (s := s) (by omega)]; intro e; injection e with e; exact hb (by rw [e]; rfl)
      refine parse11_pos s w T x _ hE h0 hs hsz hb rfl ⟨fun h => ?_, fun m h => ?_⟩ <;>
      · unfold durO
        rw [List.drop_zero] at h
        rw [hc]
        simp only
        rw [if_neg (bs_ne (by omega)), h]
        rfl

theorem millis12 (n : Int) (w : World) : Calls Tryd.prog 12 #[.agg #[.int .i64 n]] w fun e w' => e = .returned (.int .i64 n) ∧ Below w.heap.size w w' := by
  go_enter Tryd.func12, Tryd.ntmps12
  go_wp2
  go_ret
  exact ⟨rfl, (Below.refl _ _).alloc (Nat.le_refl _) _⟩

/-- the door's ParseDuration -/
def IEnd (w : World) (s : List UInt8) (e : Ending) (w' : World) : Prop := e = .returned (durV s) ∧ Below w.heap.size w w'

set_option maxHeartbeats 1000000 in
theorem impl7 (s : ByteArray) (w : World) (T : TypeId) (x : Value) (hE : w.cell? ⟨0, 0, none⟩ = some (.iface T x)) (h0 : 0 < w.heap.size) (hsz : s.size ≤ 1000000) :
    Calls Tryd.prog 7 #[.string s] w (IEnd w (bs s)) := by
  have C := parse11 s w T x hE h0 hsz
  unfold PEnd at C
  obtain ⟨n, er, b, hn, her, hv⟩ : ∃ n er b, (durO (bs s)).getD 0 = n ∧ (if (durO (bs s)).isNone then (Value.iface T x) else .nilIface) = er ∧ ((b = true ∧ er = .nilIface) ∨ (b = false ∧ er = .iface T x)) ∧ durV (bs s) = .tuple #[.int .i64 n, .bool b] := by
    unfold durV
    cases durO (bs s) with
    | none => exact ⟨_, _, false, rfl, rfl, .inr ⟨rfl, rfl⟩, rfl⟩
    | some n => exact ⟨_, _, true, rfl, rfl, .inl ⟨rfl, rfl⟩, rfl⟩
  obtain ⟨hor, hv⟩ := hv
  rw [hn, her] at C
  have HV := Lib.hid hv
  clear hv hn her
  rcases hor with ⟨rfl, rfl⟩ | ⟨rfl, rfl⟩
  · go_enter Tryd.func7, Tryd.ntmps7
    go_wp2_with fail
    refine C.mono ?_
    rintro e w1 ⟨rfl, hb1⟩
    have HB := Lib.hid hb1
    clear hb1
    simp only []
    go_wp2_with fail
    go_region_with (go_at_call 12; refine (millis12 n _).mono ?_; rintro e w2 ⟨rfl, hb2⟩)
    all_goals
      have HB2 := Lib.hid hb2
      clear hb2
      go_wp2_with fail
      go_ret2
      exact ⟨(congrArg Ending.returned HV.out).symm, (HB.out.trans ((((Below.refl _ _).alloc (Nat.le_refl _) _).mono HB.out.size).drew)).trans (HB2.out.mono (Nat.le_trans HB.out.size ((Below.refl w1.heap.size w1).alloc (Nat.le_refl _) (.cells #[.int .i64 n] 36)).size))⟩
  · go_enter Tryd.func7, Tryd.ntmps7
    go_wp2_with fail
    refine C.mono ?_
    rintro e w1 ⟨rfl, hb1⟩
    have HB := Lib.hid hb1
    clear hb1
    simp only []
    go_wp2_with fail
    go_region_with (go_at_call 12; refine (millis12 n _).mono ?_; rintro e w2 ⟨rfl, hb2⟩)
    all_goals
      have HB2 := Lib.hid hb2
      clear hb2
      go_wp2_with fail
      go_ret2
      exact ⟨(congrArg Ending.returned HV.out).symm, (HB.out.trans ((((Below.refl _ _).alloc (Nat.le_refl _) _).mono HB.out.size).drew)).trans (HB2.out.mono (Nat.le_trans HB.out.size ((Below.refl w1.heap.size w1).alloc (Nat.le_refl _) (.cells #[.int .i64 n] 36)).size))⟩

set_option maxHeartbeats 1000000 in
theorem law4 (s : ByteArray) (w : World) (T : TypeId) (x : Value) (hE : w.cell? ⟨0, 0, none⟩ = some (.iface T x)) (h0 : 0 < w.heap.size) :
    Calls Tryd.prog 4 #[.string s] w fun e w' => e = .returned (.bool true) ∧ Below w.heap.size w w' := by
  by_cases h1 : 2147483647 < (s.size : Int)
  · go_enter Tryd.func4, Tryd.ntmps4
    go_wp2
    go_ret
    exact ⟨rfl, Below.refl _ _⟩
  · by_cases h2 : 2000 < (s.size : Int)
    · go_enter Tryd.func4, Tryd.ntmps4
      go_wp2
      go_ret
      exact ⟨rfl, Below.refl _ _⟩
    · have C7 := impl7 s w T x hE h0 (by omega)
      have C9 := fun w => spec9 s w (by omega)
      unfold IEnd at C7
      obtain ⟨n, b, hv⟩ : ∃ n b, durV (bs s) = .tuple #[.int .i64 n, .bool b] := by
        unfold durV; split
        · exact ⟨_, _, rfl⟩
        · exact ⟨_, _, rfl⟩
      rw [hv] at C7 C9
      clear hv hE
      go_enter Tryd.func4, Tryd.ntmps4
      go_wp2_with fail
      refine C7.mono ?_
      rintro e w1 ⟨rfl, hb1⟩
      have HB := Lib.hid hb1
      clear hb1
      simp only []
      go_wp2_with fail
      refine (C9 _).mono ?_
      rintro e w2 ⟨rfl, rfl⟩
      simp only []
      go_wp2_with fail
      go_ret
      refine ⟨?_, HB.out⟩
      cases b <;> simp
end Go.Proofs.YthbdcekcockhfaaDoor.Dur
