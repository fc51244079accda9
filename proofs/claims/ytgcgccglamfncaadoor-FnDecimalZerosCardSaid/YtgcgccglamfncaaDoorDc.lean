/-
  WALKS for FnDecimalParses: zzIndex (11); strconv.ParseInt (12), strconv.ParseUint (13) by the shelf; newDecimal (15).
-/
import Derived.Test.YtgcgccglamfncaaDoorDb
import Derived.Lib.AtoiErrMem
import Derived.Below
namespace Go.Proofs.YtgcgccglamfncaaDoor.Dec
open Go.RowKit

/-- what the walks read of the package variables -/
def Env (w : World) : Prop := (∃ T x, w.cell? ⟨0, 0, none⟩ = some (.iface T x)) ∧ (∃ T x, w.cell? ⟨5, 0, none⟩ = some (.iface T x)) ∧ (∃ T x, w.cell? ⟨6, 0, none⟩ = some (.iface T x)) ∧ Tabs w ∧ 7 ≤ w.heap.size

theorem Env.below {w w' : World} (h : Env w) (hb : Below w.heap.size w w') : Env w' := by
  obtain ⟨⟨T0, x0, h0⟩, ⟨T1, x1, h1⟩, ⟨T2, x2, h2⟩, ⟨h3, h4⟩, h5⟩ := h
  have C : ∀ (b i : Nat) (v : Value), b < 7 → w.cell? ⟨b, i, none⟩ = some v → w'.cell? ⟨b, i, none⟩ = some v := fun b i v hlt e =>
    (hb.cell (p := ⟨b, i, none⟩) (by show b < _; omega)).trans e
  exact ⟨⟨T0, x0, C 0 0 _ (by omega) h0⟩, ⟨T1, x1, C 5 0 _ (by omega) h1⟩, ⟨T2, x2, C 6 0 _ (by omega) h2⟩, ⟨C 2 0 _ (by omega) h3, fun k hk => C 3 k _ (by omega) (h4 k hk)⟩, Nat.le_trans h5 hb.size⟩

theorem pint12_ok (s : ByteArray) (v : Int) (w : World) (hs : s.size ≤ 1000000) (h : Lib.parseIntB 64 (bs s) = .ok v) :
    Calls Tryd.prog 12 #[.string s, .int .i64 10, .int .i64 64] w fun e w' => e = .returned (.tuple #[.int .i64 v, .nilIface]) ∧ Below w.heap.size w w' := by
  refine (Any.strconv_ParseInt_10_at64_ok Tryd.lays174 s (by omega) v h w).mono ?_
  rintro e w' ⟨rfl, hw⟩
  refine ⟨rfl, ?_⟩
  rcases hw with rfl | ⟨t, rfl⟩
  · exact Below.refl _ _
  · exact Lib.bytesWorld_below _ _ _
theorem pint12_no (s : ByteArray) (w : World) (hs : s.size ≤ 1000000) (E : Env w) (h : ∀ v, Lib.parseIntB 64 (bs s) ≠ .ok v) :
    Calls Tryd.prog 12 #[.string s, .int .i64 10, .int .i64 64] w fun e w' => (∃ n T x, e = .returned (.tuple #[.int .i64 n, .iface T x])) ∧ Below w.heap.size w w' := by
  obtain ⟨_, ⟨T1, x1, h1⟩, ⟨T2, x2, h2⟩, _⟩ := E
  cases hp : Lib.parseIntB 64 (bs s) with
  | ok v => exact absurd hp (h v)
  | «syntax» =>
    refine (Any.strconv_ParseInt_10_at64_syntax Tryd.lays174 s (by omega) hp (.iface T1 x1) w h1 (.inr ⟨T1, x1, rfl⟩)).mono ?_
    rintro e w' ⟨N, rfl, _, _, hb⟩
    exact ⟨⟨_, _, _, rfl⟩, hb⟩
  | range =>
    refine (Any.strconv_ParseInt_10_at64_range Tryd.lays174 s (by omega) hp (.iface T2 x2) w h2 (.inr ⟨T2, x2, rfl⟩)).mono ?_
    rintro e w' ⟨N, rfl, _, _, hb⟩
    exact ⟨⟨_, _, _, rfl⟩, hb⟩
theorem puint13_ok (s : ByteArray) (v : Nat) (w : World) (hs : s.size ≤ 1000000) (h : Lib.parseUintB 16 (bs s) = .ok v) :
    Calls Tryd.prog 13 #[.string s, .int .i64 10, .int .i64 16] w fun e w' => e = .returned (.tuple #[.int .u64 v, .nilIface]) ∧ Below w.heap.size w w' := by
  refine (Any.strconv_ParseUint_10_at16_ok Tryd.lays14 s (by omega) v h w).mono ?_
  rintro e w' ⟨rfl, hw⟩
  refine ⟨rfl, ?_⟩
  rcases hw with rfl | rfl
  · exact Below.refl _ _
  · exact Lib.bytesWorld_below _ _ _
theorem puint13_no (s : ByteArray) (w : World) (hs : s.size ≤ 1000000) (E : Env w) (h : ∀ v, Lib.parseUintB 16 (bs s) ≠ .ok v) :
    Calls Tryd.prog 13 #[.string s, .int .i64 10, .int .i64 16] w fun e w' => (∃ n T x, e = .returned (.tuple #[.int .u64 n, .iface T x])) ∧ Below w.heap.size w w' := by
  obtain ⟨_, ⟨T1, x1, h1⟩, ⟨T2, x2, h2⟩, _⟩ := E
  cases hp : Lib.parseUintB 16 (bs s) with
  | ok v => exact absurd hp (h v)
  | «syntax» =>
    refine (Any.strconv_ParseUint_10_at16_syntax Tryd.lays14 s (by omega) hp (.iface T1 x1) w h1 (.inr ⟨T1, x1, rfl⟩)).mono ?_
    rintro e w' ⟨N, rfl, _, _, hb⟩
    exact ⟨⟨_, _, _, rfl⟩, hb⟩
  | range =>
    refine (Any.strconv_ParseUint_10_at16_range Tryd.lays14 s (by omega) hp (.iface T2 x2) w h2 (.inr ⟨T2, x2, rfl⟩)).mono ?_
    rintro e w' ⟨N, rfl, _, _, hb⟩
    exact ⟨⟨_, _, _, rfl⟩, hb⟩

/-- how many bytes stand ahead of the first point -/
def dot (l : List UInt8) : Nat := (l.takeWhile (fun c => c != 46)).length
theorem dot_cons_yes {c : UInt8} {r : List UInt8} (h : c = 46) : dot (c :: r) = 0 := by simp [dot, h]
theorem dot_cons_no {c : UInt8} {r : List UInt8} (h : c ≠ 46) : dot (c :: r) = dot r + 1 := by simp [dot, h]
theorem dot_le (s : List UInt8) : dot s ≤ s.length := by unfold dot; exact (List.takeWhile_sublist _).length_le

theorem one_byte (s : ByteArray) (k : Nat) (h : k < s.size) : (s.extract k (k + 1)).toList = [s[k]] := by
  have e := bs_extract2 s k (k + 1)
  rw [bs_get s k h] at e
  rw [bsE, e]
  simp
theorem point_list : (ByteArray.mk #[46]).toList = [46] := by rw [bsE]; rfl

set_option maxHeartbeats 400000 in
theorem idx11 (s : ByteArray) (w : World) (hs : s.size ≤ 1000000) :
    Calls Tryd.prog 11 #[.string s, .string ⟨#[46]⟩] w fun e w' => e = .returned (.int .i64 (if dot (bs s) < s.size then (dot (bs s) : Int) else -1)) ∧ w' = w := by
  obtain ⟨R, hR⟩ : ∃ R : Int, (if dot (bs s) < s.size then (dot (bs s) : Int) else -1) = R := ⟨_, rfl⟩
  rw [hR]
  have HR := Lib.hid hR
  clear hR
  go_enter Tryd.func11, Tryd.ntmps11
  go_wp2
  go_loop [5] (fun i => ∃ k : Nat, k ≤ s.size ∧ i = .int .i64 k ∧ k + dot ((bs s).drop k) = dot (bs s)) (fun i => s.size - (intOf i).toNat)
  case atStart => exact ⟨0, Nat.zero_le _, rfl, by simp⟩
  case round =>
    obtain ⟨k, hk, rfl, hd⟩ := hrel
    by_cases hlt : k < s.size
    · rw [bs_get s k hlt] at hd
      have ho := one_byte s k hlt
      have hq : (k : Int) + 1 ≤ (s.size : Int) := by omega
      by_cases h46 : s[k] = 46
      · rw [dot_cons_yes h46] at hd
        have ht : ((s.extract k (k + 1)).toList == [46]) = true := by rw [ho, h46]; rfl
        have hkR : R = (k : Int) := by rw [← HR.out, if_pos (by omega)]; omega
        have HD := Lib.hid hkR
        clear hd ho h46 hkR
        go_wp2_with fail
        go_ret
        rw [HD.out]
        exact ⟨rfl, rfl⟩
      · rw [dot_cons_no h46] at hd
        have ht : ((s.extract k (k + 1)).toList == [46]) = false := by
          rw [ho, beq_eq_false_iff_ne]
          intro e
          injection e with e
          exact h46 e
        have HD := Lib.hid hd
        clear hd ho h46
        go_wp2_with fail
        go_round
        case rel => exact ⟨k + 1, by omega, by go_num, by have := HD.out; omega⟩
        case measure => simp [intOf]; omega
    · have hkR : R = -1 := by
        rw [List.drop_eq_nil_of_le (by rw [bs_len]; omega)] at hd
        have : dot ([] : List UInt8) = 0 := rfl
        rw [← HR.out, if_neg (by omega)]
      have HD := Lib.hid hkR
      clear hd hkR
      have hq : ¬ (k : Int) + 1 ≤ (s.size : Int) := by omega
      go_wp2_with fail
      go_ret
      rw [HD.out]
      exact ⟨rfl, rfl⟩

/-- the result of the constructor: a decimal, or the zero one and the package's error -/
def DecEnd (o : Option Int) (e : Ending) : Prop := match o with | some n => e = .returned (.tuple #[.agg #[.int .i64 n], .nilIface]) | none => ∃ T x, e = .returned (.tuple #[.agg #[.int .i64 0], .iface T x])
end Go.Proofs.YtgcgccglamfncaaDoor.Dec
