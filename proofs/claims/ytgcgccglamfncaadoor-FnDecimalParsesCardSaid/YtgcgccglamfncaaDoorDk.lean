/-
  WALKS for FnDecimalParses: the reference's decimal (10). Printed by mkDk.py.
-/
import Derived.Test.YtgcgccglamfncaaDoorDj
import Derived.Laws.Concat
namespace Go.Proofs.YtgcgccglamfncaaDoor.Dec
open Go.RowKit

theorem isE {x : ByteArray} (h : x.size ≠ 0) : x.toList.isEmpty = false := by
  rw [bsE]; cases hb : bs x with
  | nil => exact absurd (by rw [← bs_len, hb]; rfl) h
  | cons => rfl
theorem isE0 {x : ByteArray} (h : x.size = 0) : x.toList.isEmpty = true := by
  rw [bsE, bs_nil x h]; rfl
/-- where the whole part ends, and the text -/
theorem e16a (x : ByteArray) (p : Nat) (hp : dEnd (bs x) = p) (hs : x.size ≤ 1000000) (w : World) : Calls Tryd.prog 16 #[.string x, .int .i64 0] w fun e w' => e = .returned (.int .i64 (p : Int)) ∧ w' = w := by
  have := end16 x 0 w (by omega) (Nat.zero_le _)
  rw [List.drop_zero, hp, Nat.zero_add] at this
  exact this
theorem e16b (x : ByteArray) (p E : Nat) (hp : p + 1 ≤ x.size) (hE : p + 1 + dEnd ((bs x).drop (p + 1)) = E) (hs : x.size ≤ 1000000) (w : World) : Calls Tryd.prog 16 #[.string x, .int .i64 ((p : Int) + 1)] w fun e w' => e = .returned (.int .i64 (E : Int)) ∧ w' = w := by
  have := end16 x (p + 1) w (by omega) hp
  rw [hE] at this
  exact this
theorem byte_ne {b : UInt8} {n : Nat} (hn : n < 256) (h : b ≠ UInt8.ofNat n) : ((b.toNat : Int) == (n : Int)) = false := by
  rw [beq_eq_false_iff_ne]
  intro e
  apply h
  exact (toNat_eq hn).1 (by omega)
theorem catE (x y : ByteArray) (h : x.size + y.size ≤ 9000000) (w : World) : (Op.stringOp .add x y).run Tryd.prog w = .ok (.string (x ++ y)) w := run_string_add_sum w x y (by omega)
theorem bs_cat (x y : ByteArray) : bs (x ++ y) = bs x ++ bs y := by simp [bs]

set_option maxHeartbeats 1000000 in
theorem dec10_pos_f1 (s : ByteArray) (w : World) (hs : s.size ≤ 1000000) (h0 : 0 < s.size) (h45 : s[0] ≠ 45) (h43 : s[0] ≠ 43) (hxs : s.size ≤ 1000000) (p : Nat) (hp : dEnd (bs s) = p) (h : p = 0) :
    Calls Tryd.prog 10 #[.string s] w fun e w' => e = .returned (.tuple #[.int .i64 0, .bool false]) ∧ w' = w := by
  have A := e16a s p hp hxs
  have g1 := isE (show s.size ≠ 0 by omega)
  have g2 : ((s[0].toNat : Int) == 45) = false := byte_ne (n := 45) (by omega) h45
  have g3 : ((s[0].toNat : Int) == 43) = false := byte_ne (n := 43) (by omega) h43
  have g4 : (0 : Int) < (s.size : Int) := by omega
  clear h45 h43
  subst h
  clear hp
  go_enter Tryd.func10, Tryd.ntmps10
  go_wp2_with fail
  refine (A _).mono ?_
  rintro e w' ⟨rfl, rfl⟩
  simp only []
  go_wp2_with fail
  go_ret2
  exact ⟨rfl, rfl⟩

set_option maxHeartbeats 1000000 in
theorem dec10_pos_f2 (s : ByteArray) (w : World) (hs : s.size ≤ 1000000) (h0 : 0 < s.size) (h45 : s[0] ≠ 45) (h43 : s[0] ≠ 43) (hxs : s.size ≤ 1000000) (p : Nat) (hp : dEnd (bs s) = p) (h : p ≠ 0) (h2 : p = s.size) :
    Calls Tryd.prog 10 #[.string s] w fun e w' => e = .returned (.tuple #[.int .i64 0, .bool false]) ∧ w' = w := by
  have A := e16a s p hp hxs
  have g1 := isE (show s.size ≠ 0 by omega)
  have g2 : ((s[0].toNat : Int) == 45) = false := byte_ne (n := 45) (by omega) h45
  have g3 : ((s[0].toNat : Int) == 43) = false := byte_ne (n := 43) (by omega) h43
  have g4 : (0 : Int) < (s.size : Int) := by omega
  clear h45 h43
  have t1 : ((p : Int) == 0) = false := beq_eq_false_iff_ne.2 (by omega)
  have t2 : ((p : Int) == (s.size : Int)) = true := beq_iff_eq.2 (by omega)
  clear hp h h2
  go_enter Tryd.func10, Tryd.ntmps10
  go_wp2_with fail
  refine (A _).mono ?_
  rintro e w' ⟨rfl, rfl⟩
  simp only []
  go_wp2_with fail
  go_ret2
  exact ⟨rfl, rfl⟩

set_option maxHeartbeats 1000000 in
theorem dec10_pos_f3 (s : ByteArray) (w : World) (hs : s.size ≤ 1000000) (h0 : 0 < s.size) (h45 : s[0] ≠ 45) (h43 : s[0] ≠ 43) (hxs : s.size ≤ 1000000) (p : Nat) (hp : dEnd (bs s) = p) (h : p ≠ 0) (h2 : p < s.size) (h3 : s[p] ≠ 46) :
    Calls Tryd.prog 10 #[.string s] w fun e w' => e = .returned (.tuple #[.int .i64 0, .bool false]) ∧ w' = w := by
  have A := e16a s p hp hxs
  have g1 := isE (show s.size ≠ 0 by omega)
  have g2 : ((s[0].toNat : Int) == 45) = false := byte_ne (n := 45) (by omega) h45
  have g3 : ((s[0].toNat : Int) == 43) = false := byte_ne (n := 43) (by omega) h43
  have g4 : (0 : Int) < (s.size : Int) := by omega
  clear h45 h43
  have t1 : ((p : Int) == 0) = false := beq_eq_false_iff_ne.2 (by omega)
  have t2 : ((p : Int) == (s.size : Int)) = false := beq_eq_false_iff_ne.2 (by omega)
  have t3 : (p : Int) < (s.size : Int) := by omega
  have t4 : ((s[p].toNat : Int) == 46) = false := byte_ne (n := 46) (by omega) h3
  have t5 : ((s[p].toNat : Int) != 46) = true := by rw [bne, t4]; rfl
  clear hp h h3
  go_enter Tryd.func10, Tryd.ntmps10
  go_wp2_with fail
  refine (A _).mono ?_
  rintro e w' ⟨rfl, rfl⟩
  simp only []
  go_wp2_with fail
  go_ret2
  exact ⟨rfl, rfl⟩

set_option maxHeartbeats 1000000 in
theorem dec10_pos_f4 (s : ByteArray) (w : World) (hs : s.size ≤ 1000000) (h0 : 0 < s.size) (h45 : s[0] ≠ 45) (h43 : s[0] ≠ 43) (hxs : s.size ≤ 1000000) (p : Nat) (hp : dEnd (bs s) = p) (h : p ≠ 0) (h2 : p < s.size) (h3 : s[p] = 46) (E : Nat) (hE : p + 1 + dEnd ((bs s).drop (p + 1)) = E) (h4 : E ≠ s.size) :
    Calls Tryd.prog 10 #[.string s] w fun e w' => e = .returned (.tuple #[.int .i64 0, .bool false]) ∧ w' = w := by
  have A := e16a s p hp hxs
  have g1 := isE (show s.size ≠ 0 by omega)
  have g2 : ((s[0].toNat : Int) == 45) = false := byte_ne (n := 45) (by omega) h45
  have g3 : ((s[0].toNat : Int) == 43) = false := byte_ne (n := 43) (by omega) h43
  have g4 : (0 : Int) < (s.size : Int) := by omega
  clear h45 h43
  have t1 : ((p : Int) == 0) = false := beq_eq_false_iff_ne.2 (by omega)
  have t2 : ((p : Int) == (s.size : Int)) = false := beq_eq_false_iff_ne.2 (by omega)
  have t3 : (p : Int) < (s.size : Int) := by omega
  have t4 : ((s[p].toNat : Int) == 46) = true := by rw [h3]; rfl
  have t5 : ((s[p].toNat : Int) != 46) = false := by rw [bne, t4]; rfl
  have B := e16b s p E (by omega) hE hxs
  have t6 : ((E : Int) != (s.size : Int)) = true := bne_iff_ne.2 (by omega)
  clear hp h h3 hE h4
  go_enter Tryd.func10, Tryd.ntmps10
  go_wp2_with fail
  refine (A _).mono ?_
  rintro e w' ⟨rfl, rfl⟩
  simp only []
  go_wp2_with fail
  refine (B _).mono ?_
  rintro e w' ⟨rfl, rfl⟩
  simp only []
  go_wp2_with fail
  go_ret2
  exact ⟨rfl, rfl⟩

set_option maxHeartbeats 1000000 in
theorem dec10_pos_f5 (s : ByteArray) (w : World) (hs : s.size ≤ 1000000) (h0 : 0 < s.size) (h45 : s[0] ≠ 45) (h43 : s[0] ≠ 43) (hxs : s.size ≤ 1000000) (p : Nat) (hp : dEnd (bs s) = p) (h : p ≠ 0) (h2 : p < s.size) (h3 : s[p] = 46) (E : Nat) (hE : p + 1 + dEnd ((bs s).drop (p + 1)) = E) (h4 : E = s.size) (h5 : E = p + 1) :
    Calls Tryd.prog 10 #[.string s] w fun e w' => e = .returned (.tuple #[.int .i64 0, .bool false]) ∧ w' = w := by
  have A := e16a s p hp hxs
  have g1 := isE (show s.size ≠ 0 by omega)
  have g2 : ((s[0].toNat : Int) == 45) = false := byte_ne (n := 45) (by omega) h45
  have g3 : ((s[0].toNat : Int) == 43) = false := byte_ne (n := 43) (by omega) h43
  have g4 : (0 : Int) < (s.size : Int) := by omega
  clear h45 h43
  have t1 : ((p : Int) == 0) = false := beq_eq_false_iff_ne.2 (by omega)
  have t2 : ((p : Int) == (s.size : Int)) = false := beq_eq_false_iff_ne.2 (by omega)
  have t3 : (p : Int) < (s.size : Int) := by omega
  have t4 : ((s[p].toNat : Int) == 46) = true := by rw [h3]; rfl
  have t5 : ((s[p].toNat : Int) != 46) = false := by rw [bne, t4]; rfl
  have B := e16b s p E (by omega) hE hxs
  have t6 : ((E : Int) != (s.size : Int)) = false := by rw [h4]; simp
  have t7 : ((E : Int) == (p : Int) + 1) = true := beq_iff_eq.2 (by omega)
  clear hp h h3 hE h4 h5
  go_enter Tryd.func10, Tryd.ntmps10
  go_wp2_with fail
  refine (A _).mono ?_
  rintro e w' ⟨rfl, rfl⟩
  simp only []
  go_wp2_with fail
  refine (B _).mono ?_
  rintro e w' ⟨rfl, rfl⟩
  simp only []
  go_wp2_with fail
  go_ret2
  exact ⟨rfl, rfl⟩

set_option maxHeartbeats 1000000 in
theorem dec10_pos_f6 (s : ByteArray) (w : World) (hs : s.size ≤ 1000000) (h0 : 0 < s.size) (h45 : s[0] ≠ 45) (h43 : s[0] ≠ 43) (hxs : s.size ≤ 1000000) (p : Nat) (hp : dEnd (bs s) = p) (h : p ≠ 0) (h2 : p < s.size) (h3 : s[p] = 46) (E : Nat) (hE : p + 1 + dEnd ((bs s).drop (p + 1)) = E) (h4 : E = s.size) (h5 : p + 5 < E) :
    Calls Tryd.prog 10 #[.string s] w fun e w' => e = .returned (.tuple #[.int .i64 0, .bool false]) ∧ w' = w := by
  have A := e16a s p hp hxs
  have g1 := isE (show s.size ≠ 0 by omega)
  have g2 : ((s[0].toNat : Int) == 45) = false := byte_ne (n := 45) (by omega) h45
  have g3 : ((s[0].toNat : Int) == 43) = false := byte_ne (n := 43) (by omega) h43
  have g4 : (0 : Int) < (s.size : Int) := by omega
  clear h45 h43
  have t1 : ((p : Int) == 0) = false := beq_eq_false_iff_ne.2 (by omega)
  have t2 : ((p : Int) == (s.size : Int)) = false := beq_eq_false_iff_ne.2 (by omega)
  have t3 : (p : Int) < (s.size : Int) := by omega
  have t4 : ((s[p].toNat : Int) == 46) = true := by rw [h3]; rfl
  have t5 : ((s[p].toNat : Int) != 46) = false := by rw [bne, t4]; rfl
  have B := e16b s p E (by omega) hE hxs
  have t6 : ((E : Int) != (s.size : Int)) = false := by rw [h4]; simp
  have t7 : ((E : Int) == (p : Int) + 1) = false := beq_eq_false_iff_ne.2 (by omega)
  have t8 : (p : Int) + 5 < (E : Int) := by omega
  clear hp h h3 hE h4 h5
  go_enter Tryd.func10, Tryd.ntmps10
  go_wp2_with fail
  refine (A _).mono ?_
  rintro e w' ⟨rfl, rfl⟩
  simp only []
  go_wp2_with fail
  refine (B _).mono ?_
  rintro e w' ⟨rfl, rfl⟩
  simp only []
  go_wp2_with fail
  go_ret2
  exact ⟨rfl, rfl⟩

set_option maxHeartbeats 1000000 in
theorem dec10_pos_no (s : ByteArray) (w : World) (hs : s.size ≤ 1000000) (h0 : 0 < s.size) (h45 : s[0] ≠ 45) (h43 : s[0] ≠ 43) (hxs : s.size ≤ 1000000) (p : Nat) (hp : dEnd (bs s) = p) (h : p ≠ 0) (h2 : p < s.size) (h3 : s[p] = 46) (E : Nat) (hE : p + 1 + dEnd ((bs s).drop (p + 1)) = E) (h4 : E = s.size) (h5 : E ≠ p + 1) (h6 : E ≤ p + 5) (q : Nat) (hq : E = p + 1 + q) (y1 y : ByteArray) (hy1 : s.extract 0 p ++ s.extract (p + 1) s.size = y1) (hy : y1 ++ (ByteArray.mk #[48, 48, 48, 48]).extract q 4 = y) (hysz : y.size ≤ 2000000) (hd : ∀ c ∈ bs y, PD.dig c = true) (hbig : ¬ PD.val (bs y) ≤ 9223372036854775808) :
    Calls Tryd.prog 10 #[.string s] w fun e w' => e = .returned (.tuple #[.int .i64 0, .bool false]) ∧ Below w.heap.size w w' := by
  have A := e16a s p hp hxs
  have g1 := isE (show s.size ≠ 0 by omega)
  have g2 : ((s[0].toNat : Int) == 45) = false := byte_ne (n := 45) (by omega) h45
  have g3 : ((s[0].toNat : Int) == 43) = false := byte_ne (n := 43) (by omega) h43
  have g4 : (0 : Int) < (s.size : Int) := by omega
  clear h45 h43
  have t1 : ((p : Int) == 0) = false := beq_eq_false_iff_ne.2 (by omega)
  have t2 : ((p : Int) == (s.size : Int)) = false := beq_eq_false_iff_ne.2 (by omega)
  have t3 : (p : Int) < (s.size : Int) := by omega
  have t4 : ((s[p].toNat : Int) == 46) = true := by rw [h3]; rfl
  have t5 : ((s[p].toNat : Int) != 46) = false := by rw [bne, t4]; rfl
  have B := e16b s p E (by omega) hE hxs
  have t6 : ((E : Int) != (s.size : Int)) = false := by rw [h4]; simp
  have t7 : ((E : Int) == (p : Int) + 1) = false := beq_eq_false_iff_ne.2 (by omega)
  have t8 : ¬ (p : Int) + 5 < (E : Int) := by omega
  have t9 : (p : Int) ≤ (s.size : Int) := by omega
  have t10 : (p : Int) + 1 ≤ (s.size : Int) := by omega
  have t11 : ((p : Int) + 1).toNat = p + 1 := by omega
  have t12 : IntKind.i64.wrap ((p : Int) + 1) = (p : Int) + 1 := by rw [IntKind.wrap_i64]; omega
  have t13 : IntKind.i64.wrap ((E : Int) - (p : Int)) = (q : Int) + 1 := by rw [IntKind.wrap_i64]; omega
  have t14 : IntKind.i64.wrap ((q : Int) + 1 - 1) = (q : Int) := by rw [IntKind.wrap_i64]; omega
  have t15 : (q : Int) ≤ 4 := by omega
  have t16 : IntKind.i64.wrap (q : Int) = (q : Int) := by rw [IntKind.wrap_i64]; omega
  have sz : (s.extract 0 p).size + (s.extract (p + 1) s.size).size ≤ 9000000 := by simp; omega
  have C1 := catE (s.extract 0 p) (s.extract (p + 1) s.size) sz
  rw [hy1] at C1
  have sz2 : y1.size + ((ByteArray.mk #[48, 48, 48, 48]).extract q 4).size ≤ 9000000 := by
    rw [← hy1, ByteArray.size_append]
    have : ((ByteArray.mk #[48, 48, 48, 48]).extract q 4).size ≤ 4 := by simp; omega
    simp only [ByteArray.size_extract] at sz ⊢
    omega
  have C2 := catE y1 ((ByteArray.mk #[48, 48, 48, 48]).extract q 4) sz2
  rw [hy] at C2
  have HL := fun w => lowered17 y w (by omega) hd
  have e1 : lowV (bs y) = .tuple #[.int .i64 0, .bool false] := by unfold lowV; rw [if_neg hbig]
  rw [e1] at HL
  clear hp h h3 hE h4 h5 h6 hq hy1 hy hd hysz sz sz2 hbig e1
  go_enter Tryd.func10, Tryd.ntmps10
  go_wp2_with fail
  refine (A _).mono ?_
  rintro e w' ⟨rfl, rfl⟩
  simp only []
  go_wp2_with fail
  refine (B _).mono ?_
  rintro e w' ⟨rfl, rfl⟩
  simp only []
  go_wp2_with fail
  go_region_with (go_at_call 17; refine (HL _).mono ?_; rintro e w2 ⟨rfl, rfl⟩)
  all_goals
    go_wp2_with fail
    go_ret2
    exact ⟨rfl, Below.drew (Below.refl _ _)⟩

set_option maxHeartbeats 1000000 in
theorem dec10_pos_ok (s : ByteArray) (w : World) (hs : s.size ≤ 1000000) (h0 : 0 < s.size) (h45 : s[0] ≠ 45) (h43 : s[0] ≠ 43) (hxs : s.size ≤ 1000000) (p : Nat) (hp : dEnd (bs s) = p) (h : p ≠ 0) (h2 : p < s.size) (h3 : s[p] = 46) (E : Nat) (hE : p + 1 + dEnd ((bs s).drop (p + 1)) = E) (h4 : E = s.size) (h5 : E ≠ p + 1) (h6 : E ≤ p + 5) (q : Nat) (hq : E = p + 1 + q) (y1 y : ByteArray) (hy1 : s.extract 0 p ++ s.extract (p + 1) s.size = y1) (hy : y1 ++ (ByteArray.mk #[48, 48, 48, 48]).extract q 4 = y) (hysz : y.size ≤ 2000000) (hd : ∀ c ∈ bs y, PD.dig c = true) (hbig : PD.val (bs y) ≤ 9223372036854775808) :
    Calls Tryd.prog 10 #[.string s] w fun e w' => e = .returned (optV (sgnO false (PD.val (bs y)))) ∧ Below w.heap.size w w' := by
  have A := e16a s p hp hxs
  have g1 := isE (show s.size ≠ 0 by omega)
  have g2 : ((s[0].toNat : Int) == 45) = false := byte_ne (n := 45) (by omega) h45
  have g3 : ((s[0].toNat : Int) == 43) = false := byte_ne (n := 43) (by omega) h43
  have g4 : (0 : Int) < (s.size : Int) := by omega
  clear h45 h43
  have t1 : ((p : Int) == 0) = false := beq_eq_false_iff_ne.2 (by omega)
  have t2 : ((p : Int) == (s.size : Int)) = false := beq_eq_false_iff_ne.2 (by omega)
  have t3 : (p : Int) < (s.size : Int) := by omega
  have t4 : ((s[p].toNat : Int) == 46) = true := by rw [h3]; rfl
  have t5 : ((s[p].toNat : Int) != 46) = false := by rw [bne, t4]; rfl
  have B := e16b s p E (by omega) hE hxs
  have t6 : ((E : Int) != (s.size : Int)) = false := by rw [h4]; simp
  have t7 : ((E : Int) == (p : Int) + 1) = false := beq_eq_false_iff_ne.2 (by omega)
  have t8 : ¬ (p : Int) + 5 < (E : Int) := by omega
  have t9 : (p : Int) ≤ (s.size : Int) := by omega
  have t10 : (p : Int) + 1 ≤ (s.size : Int) := by omega
  have t11 : ((p : Int) + 1).toNat = p + 1 := by omega
  have t12 : IntKind.i64.wrap ((p : Int) + 1) = (p : Int) + 1 := by rw [IntKind.wrap_i64]; omega
  have t13 : IntKind.i64.wrap ((E : Int) - (p : Int)) = (q : Int) + 1 := by rw [IntKind.wrap_i64]; omega
  have t14 : IntKind.i64.wrap ((q : Int) + 1 - 1) = (q : Int) := by rw [IntKind.wrap_i64]; omega
  have t15 : (q : Int) ≤ 4 := by omega
  have t16 : IntKind.i64.wrap (q : Int) = (q : Int) := by rw [IntKind.wrap_i64]; omega
  have sz : (s.extract 0 p).size + (s.extract (p + 1) s.size).size ≤ 9000000 := by simp; omega
  have C1 := catE (s.extract 0 p) (s.extract (p + 1) s.size) sz
  rw [hy1] at C1
  have sz2 : y1.size + ((ByteArray.mk #[48, 48, 48, 48]).extract q 4).size ≤ 9000000 := by
    rw [← hy1, ByteArray.size_append]
    have : ((ByteArray.mk #[48, 48, 48, 48]).extract q 4).size ≤ 4 := by simp; omega
    simp only [ByteArray.size_extract] at sz ⊢
    omega
  have C2 := catE y1 ((ByteArray.mk #[48, 48, 48, 48]).extract q 4) sz2
  rw [hy] at C2
  have HL := fun w => lowered17 y w (by omega) hd
  have e1 : lowV (bs y) = .tuple #[.int .i64 (-(PD.val (bs y) : Int)), .bool true] := by unfold lowV; rw [if_pos hbig]
  rw [e1] at HL
  have SG := fun w => signedOr18 (PD.val (bs y)) false w hbig
  obtain ⟨V, hV⟩ : ∃ V, PD.val (bs y) = V := ⟨_, rfl⟩
  rw [hV] at SG HL ⊢
  have HO : ∃ n b, optV (sgnO false V) = .tuple #[.int .i64 n, .bool b] := by
    cases sgnO false V with
    | none => exact ⟨_, _, rfl⟩
    | some n => exact ⟨_, _, rfl⟩
  obtain ⟨n, b, hO⟩ := HO
  rw [hO] at SG ⊢
  clear hp h h3 hE h4 h5 h6 hq hy1 hy hd hysz sz sz2 hbig e1 hV hO
  go_enter Tryd.func10, Tryd.ntmps10
  go_wp2_with fail
  refine (A _).mono ?_
  rintro e w' ⟨rfl, rfl⟩
  simp only []
  go_wp2_with fail
  refine (B _).mono ?_
  rintro e w' ⟨rfl, rfl⟩
  simp only []
  go_wp2_with fail
  go_region_with (go_at_call 17; refine (HL _).mono ?_; rintro e w2 ⟨rfl, rfl⟩)
  all_goals
    go_wp2_with fail
    refine (SG _).mono ?_
    rintro e w3 ⟨rfl, rfl⟩
    simp only []
    go_wp2_with fail
    go_ret2
    exact ⟨rfl, Below.drew (Below.refl _ _)⟩

set_option maxHeartbeats 1000000 in
theorem dec10_minus_f1 (s : ByteArray) (w : World) (hs : s.size ≤ 1000000) (h0 : 0 < s.size) (h45 : s[0] = 45) (x : ByteArray) (hx : s.extract 1 s.size = x) (hxs : x.size ≤ 1000000) (p : Nat) (hp : dEnd (bs x) = p) (h : p = 0) :
    Calls Tryd.prog 10 #[.string s] w fun e w' => e = .returned (.tuple #[.int .i64 0, .bool false]) ∧ w' = w := by
  have A := e16a x p hp hxs
  have g1 := isE (show s.size ≠ 0 by omega)
  have g2 : ((s[0].toNat : Int) == 45) = true := by rw [h45]; rfl
  have g4 : (0 : Int) < (s.size : Int) := by omega
  have g5 : (1 : Int) ≤ (s.size : Int) := by omega
  clear h45
  subst h
  clear hp
  go_enter Tryd.func10, Tryd.ntmps10
  go_wp2_with fail
  refine (A _).mono ?_
  rintro e w' ⟨rfl, rfl⟩
  simp only []
  go_wp2_with fail
  go_ret2
  exact ⟨rfl, rfl⟩

set_option maxHeartbeats 1000000 in
theorem dec10_minus_f2 (s : ByteArray) (w : World) (hs : s.size ≤ 1000000) (h0 : 0 < s.size) (h45 : s[0] = 45) (x : ByteArray) (hx : s.extract 1 s.size = x) (hxs : x.size ≤ 1000000) (p : Nat) (hp : dEnd (bs x) = p) (h : p ≠ 0) (h2 : p = x.size) :
    Calls Tryd.prog 10 #[.string s] w fun e w' => e = .returned (.tuple #[.int .i64 0, .bool false]) ∧ w' = w := by
  have A := e16a x p hp hxs
  have g1 := isE (show s.size ≠ 0 by omega)
  have g2 : ((s[0].toNat : Int) == 45) = true := by rw [h45]; rfl
  have g4 : (0 : Int) < (s.size : Int) := by omega
  have g5 : (1 : Int) ≤ (s.size : Int) := by omega
  clear h45
  have t1 : ((p : Int) == 0) = false := beq_eq_false_iff_ne.2 (by omega)
  have t2 : ((p : Int) == (x.size : Int)) = true := beq_iff_eq.2 (by omega)
  clear hp h h2
  go_enter Tryd.func10, Tryd.ntmps10
  go_wp2_with fail
  refine (A _).mono ?_
  rintro e w' ⟨rfl, rfl⟩
  simp only []
  go_wp2_with fail
  go_ret2
  exact ⟨rfl, rfl⟩

set_option maxHeartbeats 1000000 in
theorem dec10_minus_f3 (s : ByteArray) (w : World) (hs : s.size ≤ 1000000) (h0 : 0 < s.size) (h45 : s[0] = 45) (x : ByteArray) (hx : s.extract 1 s.size = x) (hxs : x.size ≤ 1000000) (p : Nat) (hp : dEnd (bs x) = p) (h : p ≠ 0) (h2 : p < x.size) (h3 : x[p] ≠ 46) :
    Calls Tryd.prog 10 #[.string s] w fun e w' => e = .returned (.tuple #[.int .i64 0, .bool false]) ∧ w' = w := by
  have A := e16a x p hp hxs
  have g1 := isE (show s.size ≠ 0 by omega)
  have g2 : ((s[0].toNat : Int) == 45) = true := by rw [h45]; rfl
  have g4 : (0 : Int) < (s.size : Int) := by omega
  have g5 : (1 : Int) ≤ (s.size : Int) := by omega
  clear h45
  have t1 : ((p : Int) == 0) = false := beq_eq_false_iff_ne.2 (by omega)
  have t2 : ((p : Int) == (x.size : Int)) = false := beq_eq_false_iff_ne.2 (by omega)
  have t3 : (p : Int) < (x.size : Int) := by omega
  have t4 : ((x[p].toNat : Int) == 46) = false := byte_ne (n := 46) (by omega) h3
  have t5 : ((x[p].toNat : Int) != 46) = true := by rw [bne, t4]; rfl
  clear hp h h3
  go_enter Tryd.func10, Tryd.ntmps10
  go_wp2_with fail
  refine (A _).mono ?_
  rintro e w' ⟨rfl, rfl⟩
  simp only []
  go_wp2_with fail
  go_ret2
  exact ⟨rfl, rfl⟩

set_option maxHeartbeats 1000000 in
theorem dec10_minus_f4 (s : ByteArray) (w : World) (hs : s.size ≤ 1000000) (h0 : 0 < s.size) (h45 : s[0] = 45) (x : ByteArray) (hx : s.extract 1 s.size = x) (hxs : x.size ≤ 1000000) (p : Nat) (hp : dEnd (bs x) = p) (h : p ≠ 0) (h2 : p < x.size) (h3 : x[p] = 46) (E : Nat) (hE : p + 1 + dEnd ((bs x).drop (p + 1)) = E) (h4 : E ≠ x.size) :
    Calls Tryd.prog 10 #[.string s] w fun e w' => e = .returned (.tuple #[.int .i64 0, .bool false]) ∧ w' = w := by
  have A := e16a x p hp hxs
  have g1 := isE (show s.size ≠ 0 by omega)
  have g2 : ((s[0].toNat : Int) == 45) = true := by rw [h45]; rfl
  have g4 : (0 : Int) < (s.size : Int) := by omega
  have g5 : (1 : Int) ≤ (s.size : Int) := by omega
  clear h45
  have t1 : ((p : Int) == 0) = false := beq_eq_false_iff_ne.2 (by omega)
  have t2 : ((p : Int) == (x.size : Int)) = false := beq_eq_false_iff_ne.2 (by omega)
  have t3 : (p : Int) < (x.size : Int) := by omega
  have t4 : ((x[p].toNat : Int) == 46) = true := by rw [h3]; rfl
  have t5 : ((x[p].toNat : Int) != 46) = false := by rw [bne, t4]; rfl
  have B := e16b x p E (by omega) hE hxs
  have t6 : ((E : Int) != (x.size : Int)) = true := bne_iff_ne.2 (by omega)
  clear hp h h3 hE h4
  go_enter Tryd.func10, Tryd.ntmps10
  go_wp2_with fail
  refine (A _).mono ?_
  rintro e w' ⟨rfl, rfl⟩
  simp only []
  go_wp2_with fail
  refine (B _).mono ?_
  rintro e w' ⟨rfl, rfl⟩
  simp only []
  go_wp2_with fail
  go_ret2
  exact ⟨rfl, rfl⟩

set_option maxHeartbeats 1000000 in
theorem dec10_minus_f5 (s : ByteArray) (w : World) (hs : s.size ≤ 1000000) (h0 : 0 < s.size) (h45 : s[0] = 45) (x : ByteArray) (hx : s.extract 1 s.size = x) (hxs : x.size ≤ 1000000) (p : Nat) (hp : dEnd (bs x) = p) (h : p ≠ 0) (h2 : p < x.size) (h3 : x[p] = 46) (E : Nat) (hE : p + 1 + dEnd ((bs x).drop (p + 1)) = E) (h4 : E = x.size) (h5 : E = p + 1) :
    Calls Tryd.prog 10 #[.string s] w fun e w' => e = .returned (.tuple #[.int .i64 0, .bool false]) ∧ w' = w := by
  have A := e16a x p hp hxs
  have g1 := isE (show s.size ≠ 0 by omega)
  have g2 : ((s[0].toNat : Int) == 45) = true := by rw [h45]; rfl
  have g4 : (0 : Int) < (s.size : Int) := by omega
  have g5 : (1 : Int) ≤ (s.size : Int) := by omega
  clear h45
  have t1 : ((p : Int) == 0) = false := beq_eq_false_iff_ne.2 (by omega)
  have t2 : ((p : Int) == (x.size : Int)) = false := beq_eq_false_iff_ne.2 (by omega)
  have t3 : (p : Int) < (x.size : Int) := by omega
  have t4 : ((x[p].toNat : Int) == 46) = true := by rw [h3]; rfl
  have t5 : ((x[p].toNat : Int) != 46) = false := by rw [bne, t4]; rfl
  have B := e16b x p E (by omega) hE hxs
  have t6 : ((E : Int) != (x.size : Int)) = false := by rw [h4]; simp
  have t7 : ((E : Int) == (p : Int) + 1) = true := beq_iff_eq.2 (by omega)
  clear hp h h3 hE h4 h5
  go_enter Tryd.func10, Tryd.ntmps10
  go_wp2_with fail
  refine (A _).mono ?_
  rintro e w' ⟨rfl, rfl⟩
  simp only []
  go_wp2_with fail
  refine (B _).mono ?_
  rintro e w' ⟨rfl, rfl⟩
  simp only []
  go_wp2_with fail
  go_ret2
  exact ⟨rfl, rfl⟩

set_option maxHeartbeats 1000000 in
theorem dec10_minus_f6 (s : ByteArray) (w : World) (hs : s.size ≤ 1000000) (h0 : 0 < s.size) (h45 : s[0] = 45) (x : ByteArray) (hx : s.extract 1 s.size = x) (hxs : x.size ≤ 1000000) (p : Nat) (hp : dEnd (bs x) = p) (h : p ≠ 0) (h2 : p < x.size) (h3 : x[p] = 46) (E : Nat) (hE : p + 1 + dEnd ((bs x).drop (p + 1)) = E) (h4 : E = x.size) (h5 : p + 5 < E) :
    Calls Tryd.prog 10 #[.string s] w fun e w' => e = .returned (.tuple #[.int .i64 0, .bool false]) ∧ w' = w := by
  have A := e16a x p hp hxs
  have g1 := isE (show s.size ≠ 0 by omega)
  have g2 : ((s[0].toNat : Int) == 45) = true := by rw [h45]; rfl
  have g4 : (0 : Int) < (s.size : Int) := by omega
  have g5 : (1 : Int) ≤ (s.size : Int) := by omega
  clear h45
  have t1 : ((p : Int) == 0) = false := beq_eq_false_iff_ne.2 (by omega)
  have t2 : ((p : Int) == (x.size : Int)) = false := beq_eq_false_iff_ne.2 (by omega)
  have t3 : (p : Int) < (x.size : Int) := by omega
  have t4 : ((x[p].toNat : Int) == 46) = true := by rw [h3]; rfl
  have t5 : ((x[p].toNat : Int) != 46) = false := by rw [bne, t4]; rfl
  have B := e16b x p E (by omega) hE hxs
  have t6 : ((E : Int) != (x.size : Int)) = false := by rw [h4]; simp
  have t7 : ((E : Int) == (p : Int) + 1) = false := beq_eq_false_iff_ne.2 (by omega)
  have t8 : (p : Int) + 5 < (E : Int) := by omega
  clear hp h h3 hE h4 h5
  go_enter Tryd.func10, Tryd.ntmps10
  go_wp2_with fail
  refine (A _).mono ?_
  rintro e w' ⟨rfl, rfl⟩
  simp only []
  go_wp2_with fail
  refine (B _).mono ?_
  rintro e w' ⟨rfl, rfl⟩
  simp only []
  go_wp2_with fail
  go_ret2
  exact ⟨rfl, rfl⟩

set_option maxHeartbeats 1000000 in
theorem dec10_minus_no (s : ByteArray) (w : World) (hs : s.size ≤ 1000000) (h0 : 0 < s.size) (h45 : s[0] = 45) (x : ByteArray) (hx : s.extract 1 s.size = x) (hxs : x.size ≤ 1000000) (p : Nat) (hp : dEnd (bs x) = p) (h : p ≠ 0) (h2 : p < x.size) (h3 : x[p] = 46) (E : Nat) (hE : p + 1 + dEnd ((bs x).drop (p + 1)) = E) (h4 : E = x.size) (h5 : E ≠ p + 1) (h6 : E ≤ p + 5) (q : Nat) (hq : E = p + 1 + q) (y1 y : ByteArray) (hy1 : x.extract 0 p ++ x.extract (p + 1) x.size = y1) (hy : y1 ++ (ByteArray.mk #[48, 48, 48, 48]).extract q 4 = y) (hysz : y.size ≤ 2000000) (hd : ∀ c ∈ bs y, PD.dig c = true) (hbig : ¬ PD.val (bs y) ≤ 9223372036854775808) :
    Calls Tryd.prog 10 #[.string s] w fun e w' => e = .returned (.tuple #[.int .i64 0, .bool false]) ∧ Below w.heap.size w w' := by
  have A := e16a x p hp hxs
  have g1 := isE (show s.size ≠ 0 by omega)
  have g2 : ((s[0].toNat : Int) == 45) = true := by rw [h45]; rfl
  have g4 : (0 : Int) < (s.size : Int) := by omega
  have g5 : (1 : Int) ≤ (s.size : Int) := by omega
  clear h45
  have t1 : ((p : Int) == 0) = false := beq_eq_false_iff_ne.2 (by omega)
  have t2 : ((p : Int) == (x.size : Int)) = false := beq_eq_false_iff_ne.2 (by omega)
  have t3 : (p : Int) < (x.size : Int) := by omega
  have t4 : ((x[p].toNat : Int) == 46) = true := by rw [h3]; rfl
  have t5 : ((x[p].toNat : Int) != 46) = false := by rw [bne, t4]; rfl
  have B := e16b x p E (by omega) hE hxs
  have t6 : ((E : Int) != (x.size : Int)) = false := by rw [h4]; simp
  have t7 : ((E : Int) == (p : Int) + 1) = false := beq_eq_false_iff_ne.2 (by omega)
  have t8 : ¬ (p : Int) + 5 < (E : Int) := by omega
  have t9 : (p : Int) ≤ (x.size : Int) := by omega
  have t10 : (p : Int) + 1 ≤ (x.size : Int) := by omega
  have t11 : ((p : Int) + 1).toNat = p + 1 := by omega
  have t12 : IntKind.i64.wrap ((p : Int) + 1) = (p : Int) + 1 := by rw [IntKind.wrap_i64]; omega
  have t13 : IntKind.i64.wrap ((E : Int) - (p : Int)) = (q : Int) + 1 := by rw [IntKind.wrap_i64]; omega
  have t14 : IntKind.i64.wrap ((q : Int) + 1 - 1) = (q : Int) := by rw [IntKind.wrap_i64]; omega
  have t15 : (q : Int) ≤ 4 := by omega
  have t16 : IntKind.i64.wrap (q : Int) = (q : Int) := by rw [IntKind.wrap_i64]; omega
  have sz : (x.extract 0 p).size + (x.extract (p + 1) x.size).size ≤ 9000000 := by simp; omega
  have C1 := catE (x.extract 0 p) (x.extract (p + 1) x.size) sz
  rw [hy1] at C1
  have sz2 : y1.size + ((ByteArray.mk #[48, 48, 48, 48]).extract q 4).size ≤ 9000000 := by
    rw [← hy1, ByteArray.size_append]
    have : ((ByteArray.mk #[48, 48, 48, 48]).extract q 4).size ≤ 4 := by simp; omega
    simp only [ByteArray.size_extract] at sz ⊢
    omega
  have C2 := catE y1 ((ByteArray.mk #[48, 48, 48, 48]).extract q 4) sz2
  rw [hy] at C2
  have HL := fun w => lowered17 y w (by omega) hd
  have e1 : lowV (bs y) = .tuple #[.int .i64 0, .bool false] := by unfold lowV; rw [if_neg hbig]
  rw [e1] at HL
  clear hp h h3 hE h4 h5 h6 hq hy1 hy hd hysz sz sz2 hbig e1
  go_enter Tryd.func10, Tryd.ntmps10
  go_wp2_with fail
  refine (A _).mono ?_
  rintro e w' ⟨rfl, rfl⟩
  simp only []
  go_wp2_with fail
  refine (B _).mono ?_
  rintro e w' ⟨rfl, rfl⟩
  simp only []
  go_wp2_with fail
  go_region_with (go_at_call 17; refine (HL _).mono ?_; rintro e w2 ⟨rfl, rfl⟩)
  all_goals
    go_wp2_with fail
    go_ret2
    exact ⟨rfl, Below.drew (Below.refl _ _)⟩

set_option maxHeartbeats 1000000 in
theorem dec10_minus_ok (s : ByteArray) (w : World) (hs : s.size ≤ 1000000) (h0 : 0 < s.size) (h45 : s[0] = 45) (x : ByteArray) (hx : s.extract 1 s.size = x) (hxs : x.size ≤ 1000000) (p : Nat) (hp : dEnd (bs x) = p) (h : p ≠ 0) (h2 : p < x.size) (h3 : x[p] = 46) (E : Nat) (hE : p + 1 + dEnd ((bs x).drop (p + 1)) = E) (h4 : E = x.size) (h5 : E ≠ p + 1) (h6 : E ≤ p + 5) (q : Nat) (hq : E = p + 1 + q) (y1 y : ByteArray) (hy1 : x.extract 0 p ++ x.extract (p + 1) x.size = y1) (hy : y1 ++ (ByteArray.mk #[48, 48, 48, 48]).extract q 4 = y) (hysz : y.size ≤ 2000000) (hd : ∀ c ∈ bs y, PD.dig c = true) (hbig : PD.val (bs y) ≤ 9223372036854775808) :
    Calls Tryd.prog 10 #[.string s] w fun e w' => e = .returned (optV (sgnO true (PD.val (bs y)))) ∧ Below w.heap.size w w' := by
  have A := e16a x p hp hxs
  have g1 := isE (show s.size ≠ 0 by omega)
  have g2 : ((s[0].toNat : Int) == 45) = true := by rw [h45]; rfl
  have g4 : (0 : Int) < (s.size : Int) := by omega
  have g5 : (1 : Int) ≤ (s.size : Int) := by omega
  clear h45
  have t1 : ((p : Int) == 0) = false := beq_eq_false_iff_ne.2 (by omega)
  have t2 : ((p : Int) == (x.size : Int)) = false := beq_eq_false_iff_ne.2 (by omega)
  have t3 : (p : Int) < (x.size : Int) := by omega
  have t4 : ((x[p].toNat : Int) == 46) = true := by rw [h3]; rfl
  have t5 : ((x[p].toNat : Int) != 46) = false := by rw [bne, t4]; rfl
  have B := e16b x p E (by omega) hE hxs
  have t6 : ((E : Int) != (x.size : Int)) = false := by rw [h4]; simp
  have t7 : ((E : Int) == (p : Int) + 1) = false := beq_eq_false_iff_ne.2 (by omega)
  have t8 : ¬ (p : Int) + 5 < (E : Int) := by omega
  have t9 : (p : Int) ≤ (x.size : Int) := by omega
  have t10 : (p : Int) + 1 ≤ (x.size : Int) := by omega
  have t11 : ((p : Int) + 1).toNat = p + 1 := by omega
  have t12 : IntKind.i64.wrap ((p : Int) + 1) = (p : Int) + 1 := by rw [IntKind.wrap_i64]; omega
  have t13 : IntKind.i64.wrap ((E : Int) - (p : Int)) = (q : Int) + 1 := by rw [IntKind.wrap_i64]; omega
  have t14 : IntKind.i64.wrap ((q : Int) + 1 - 1) = (q : Int) := by rw [IntKind.wrap_i64]; omega
  have t15 : (q : Int) ≤ 4 := by omega
  have t16 : IntKind.i64.wrap (q : Int) = (q : Int) := by rw [IntKind.wrap_i64]; omega
  have sz : (x.extract 0 p).size + (x.extract (p + 1) x.size).size ≤ 9000000 := by simp; omega
  have C1 := catE (x.extract 0 p) (x.extract (p + 1) x.size) sz
  rw [hy1] at C1
  have sz2 : y1.size + ((ByteArray.mk #[48, 48, 48, 48]).extract q 4).size ≤ 9000000 := by
    rw [← hy1, ByteArray.size_append]
    have : ((ByteArray.mk #[48, 48, 48, 48]).extract q 4).size ≤ 4 := by simp; omega
    simp only [ByteArray.size_extract] at sz ⊢
    omega
  have C2 := catE y1 ((ByteArray.mk #[48, 48, 48, 48]).extract q 4) sz2
  rw [hy] at C2
  have HL := fun w => lowered17 y w (by omega) hd
  have e1 : lowV (bs y) = .tuple #[.int .i64 (-(PD.val (bs y) : Int)), .bool true] := by unfold lowV; rw [if_pos hbig]
  rw [e1] at HL
  have SG := fun w => signedOr18 (PD.val (bs y)) true w hbig
  obtain ⟨V, hV⟩ : ∃ V, PD.val (bs y) = V := ⟨_, rfl⟩
  rw [hV] at SG HL ⊢
  have HO : ∃ n b, optV (sgnO true V) = .tuple #[.int .i64 n, .bool b] := by
    cases sgnO true V with
    | none => exact ⟨_, _, rfl⟩
    | some n => exact ⟨_, _, rfl⟩
  obtain ⟨n, b, hO⟩ := HO
  rw [hO] at SG ⊢
  clear hp h h3 hE h4 h5 h6 hq hy1 hy hd hysz sz sz2 hbig e1 hV hO
  go_enter Tryd.func10, Tryd.ntmps10
  go_wp2_with fail
  refine (A _).mono ?_
  rintro e w' ⟨rfl, rfl⟩
  simp only []
  go_wp2_with fail
  refine (B _).mono ?_
  rintro e w' ⟨rfl, rfl⟩
  simp only []
  go_wp2_with fail
  go_region_with (go_at_call 17; refine (HL _).mono ?_; rintro e w2 ⟨rfl, rfl⟩)
  all_goals
    go_wp2_with fail
    refine (SG _).mono ?_
    rintro e w3 ⟨rfl, rfl⟩
    simp only []
    go_wp2_with fail
    go_ret2
    exact ⟨rfl, Below.drew (Below.refl _ _)⟩

set_option maxHeartbeats 1000000 in
theorem dec10_plus_f1 (s : ByteArray) (w : World) (hs : s.size ≤ 1000000) (h0 : 0 < s.size) (h43 : s[0] = 43) (x : ByteArray) (hx : s.extract 1 s.size = x) (hxs : x.size ≤ 1000000) (p : Nat) (hp : dEnd (bs x) = p) (h : p = 0) :
    Calls Tryd.prog 10 #[.string s] w fun e w' => e = .returned (.tuple #[.int .i64 0, .bool false]) ∧ w' = w := by
  have A := e16a x p hp hxs
  have g1 := isE (show s.size ≠ 0 by omega)
  have g2 : ((s[0].toNat : Int) == 45) = false := by rw [h43]; rfl
  have g3 : ((s[0].toNat : Int) == 43) = true := by rw [h43]; rfl
  have g4 : (0 : Int) < (s.size : Int) := by omega
  have g5 : (1 : Int) ≤ (s.size : Int) := by omega
  clear h43
  subst h
  clear hp
  go_enter Tryd.func10, Tryd.ntmps10
  go_wp2_with fail
  refine (A _).mono ?_
  rintro e w' ⟨rfl, rfl⟩
  simp only []
  go_wp2_with fail
  go_ret2
  exact ⟨rfl, rfl⟩

set_option maxHeartbeats 1000000 in
theorem dec10_plus_f2 (s : ByteArray) (w : World) (hs : s.size ≤ 1000000) (h0 : 0 < s.size) (h43 : s[0] = 43) (x : ByteArray) (hx : s.extract 1 s.size = x) (hxs : x.size ≤ 1000000) (p : Nat) (hp : dEnd (bs x) = p) (h : p ≠ 0) (h2 : p = x.size) :
    Calls Tryd.prog 10 #[.string s] w fun e w' => e = .returned (.tuple #[.int .i64 0, .bool false]) ∧ w' = w := by
  have A := e16a x p hp hxs
  have g1 := isE (show s.size ≠ 0 by omega)
  have g2 : ((s[0].toNat : Int) == 45) = false := by rw [h43]; rfl
  have g3 : ((s[0].toNat : Int) == 43) = true := by rw [h43]; rfl
  have g4 : (0 : Int) < (s.size : Int) := by omega
  have g5 : (1 : Int) ≤ (s.size : Int) := by omega
  clear h43
  have t1 : ((p : Int) == 0) = false := beq_eq_false_iff_ne.2 (by omega)
  have t2 : ((p : Int) == (x.size : Int)) = true := beq_iff_eq.2 (by omega)
  clear hp h h2
  go_enter Tryd.func10, Tryd.ntmps10
  go_wp2_with fail
  refine (A _).mono ?_
  rintro e w' ⟨rfl, rfl⟩
  simp only []
  go_wp2_with fail
  go_ret2
  exact ⟨rfl, rfl⟩

set_option maxHeartbeats 1000000 in
theorem dec10_plus_f3 (s : ByteArray) (w : World) (hs : s.size ≤ 1000000) (h0 : 0 < s.size) (h43 : s[0] = 43) (x : ByteArray) (hx : s.extract 1 s.size = x) (hxs : x.size ≤ 1000000) (p : Nat) (hp : dEnd (bs x) = p) (h : p ≠ 0) (h2 : p < x.size) (h3 : x[p] ≠ 46) :
    Calls Tryd.prog 10 #[.string s] w fun e w' => e = .returned (.tuple #[.int .i64 0, .bool false]) ∧ w' = w := by
  have A := e16a x p hp hxs
  have g1 := isE (show s.size ≠ 0 by omega)
  have g2 : ((s[0].toNat : Int) == 45) = false := by rw [h43]; rfl
  have g3 : ((s[0].toNat : Int) == 43) = true := by rw [h43]; rfl
  have g4 : (0 : Int) < (s.size : Int) := by omega
  have g5 : (1 : Int) ≤ (s.size : Int) := by omega
  clear h43
  have t1 : ((p : Int) == 0) = false := beq_eq_false_iff_ne.2 (by omega)
  have t2 : ((p : Int) == (x.size : Int)) = false := beq_eq_false_iff_ne.2 (by omega)
  have t3 : (p : Int) < (x.size : Int) := by omega
  have t4 : ((x[p].toNat : Int) == 46) = false := byte_ne (n := 46) (by omega) h3
  have t5 : ((x[p].toNat : Int) != 46) = true := by rw [bne, t4]; rfl
  clear hp h h3
  go_enter Tryd.func10, Tryd.ntmps10
  go_wp2_with fail
  refine (A _).mono ?_
  rintro e w' ⟨rfl, rfl⟩
  simp only []
  go_wp2_with fail
  go_ret2
  exact ⟨rfl, rfl⟩

set_option maxHeartbeats 1000000 in
theorem dec10_plus_f4 (s : ByteArray) (w : World) (hs : s.size ≤ 1000000) (h0 : 0 < s.size) (h43 : s[0] = 43) (x : ByteArray) (hx : s.extract 1 s.size = x) (hxs : x.size ≤ 1000000) (p : Nat) (hp : dEnd (bs x) = p) (h : p ≠ 0) (h2 : p < x.size) (h3 : x[p] = 46) (E : Nat) (hE : p + 1 + dEnd ((bs x).drop (p + 1)) = E) (h4 : E ≠ x.size) :
    Calls Tryd.prog 10 #[.string s] w fun e w' => e = .returned (.tuple #[.int .i64 0, .bool false]) ∧ w' = w := by
  have A := e16a x p hp hxs
  have g1 := isE (show s.size ≠ 0 by omega)
  have g2 : ((s[0].toNat : Int) == 45) = false := by rw [h43]; rfl
  have g3 : ((s[0].toNat : Int) == 43) = true := by rw [h43]; rfl
  have g4 : (0 : Int) < (s.size : Int) := by omega
  have g5 : (1 : Int) ≤ (s.size : Int) := by omega
  clear h43
  have t1 : ((p : Int) == 0) = false := beq_eq_false_iff_ne.2 (by omega)
  have t2 : ((p : Int) == (x.size : Int)) = false := beq_eq_false_iff_ne.2 (by omega)
  have t3 : (p : Int) < (x.size : Int) := by omega
  have t4 : ((x[p].toNat : Int) == 46) = true := by rw [h3]; rfl
  have t5 : ((x[p].toNat : Int) != 46) = false := by rw [bne, t4]; rfl
  have B := e16b x p E (by omega) hE hxs
  have t6 : ((E : Int) != (x.size : Int)) = true := bne_iff_ne.2 (by omega)
  clear hp h h3 hE h4
  go_enter Tryd.func10, Tryd.ntmps10
  go_wp2_with fail
  refine (A _).mono ?_
  rintro e w' ⟨rfl, rfl⟩
  simp only []
  go_wp2_with fail
  refine (B _).mono ?_
  rintro e w' ⟨rfl, rfl⟩
  simp only []
  go_wp2_with fail
  go_ret2
  exact ⟨rfl, rfl⟩

set_option maxHeartbeats 1000000 in
theorem dec10_plus_f5 (s : ByteArray) (w : World) (hs : s.size ≤ 1000000) (h0 : 0 < s.size) (h43 : s[0] = 43) (x : ByteArray) (hx : s.extract 1 s.size = x) (hxs : x.size ≤ 1000000) (p : Nat) (hp : dEnd (bs x) = p) (h : p ≠ 0) (h2 : p < x.size) (h3 : x[p] = 46) (E : Nat) (hE : p + 1 + dEnd ((bs x).drop (p + 1)) = E) (h4 : E = x.size) (h5 : E = p + 1) :
    Calls Tryd.prog 10 #[.string s] w fun e w' => e = .returned (.tuple #[.int .i64 0, .bool false]) ∧ w' = w := by
  have A := e16a x p hp hxs
  have g1 := isE (show s.size ≠ 0 by omega)
  have g2 : ((s[0].toNat : Int) == 45) = false := by rw [h43]; rfl
  have g3 : ((s[0].toNat : Int) == 43) = true := by rw [h43]; rfl
  have g4 : (0 : Int) < (s.size : Int) := by omega
  have g5 : (1 : Int) ≤ (s.size : Int) := by omega
  clear h43
  have t1 : ((p : Int) == 0) = false := beq_eq_false_iff_ne.2 (by omega)
  have t2 : ((p : Int) == (x.size : Int)) = false := beq_eq_false_iff_ne.2 (by omega)
  have t3 : (p : Int) < (x.size : Int) := by omega
  have t4 : ((x[p].toNat : Int) == 46) = true := by rw [h3]; rfl
  have t5 : ((x[p].toNat : Int) != 46) = false := by rw [bne, t4]; rfl
  have B := e16b x p E (by omega) hE hxs
  have t6 : ((E : Int) != (x.size : Int)) = false := by rw [h4]; simp
  have t7 : ((E : Int) == (p : Int) + 1) = true := beq_iff_eq.2 (by omega)
  clear hp h h3 hE h4 h5
  go_enter Tryd.func10, Tryd.ntmps10
  go_wp2_with fail
  refine (A _).mono ?_
  rintro e w' ⟨rfl, rfl⟩
  simp only []
  go_wp2_with fail
  refine (B _).mono ?_
  rintro e w' ⟨rfl, rfl⟩
  simp only []
  go_wp2_with fail
  go_ret2
  exact ⟨rfl, rfl⟩

set_option maxHeartbeats 1000000 in
theorem dec10_plus_f6 (s : ByteArray) (w : World) (hs : s.size ≤ 1000000) (h0 : 0 < s.size) (h43 : s[0] = 43) (x : ByteArray) (hx : s.extract 1 s.size = x) (hxs : x.size ≤ 1000000) (p : Nat) (hp : dEnd (bs x) = p) (h : p ≠ 0) (h2 : p < x.size) (h3 : x[p] = 46) (E : Nat) (hE : p + 1 + dEnd ((bs x).drop (p + 1)) = E) (h4 : E = x.size) (h5 : p + 5 < E) :
    Calls Tryd.prog 10 #[.string s] w fun e w' => e = .returned (.tuple #[.int .i64 0, .bool false]) ∧ w' = w := by
  have A := e16a x p hp hxs
  have g1 := isE (show s.size ≠ 0 by omega)
  have g2 : ((s[0].toNat : Int) == 45) = false := by rw [h43]; rfl
  have g3 : ((s[0].toNat : Int) == 43) = true := by rw [h43]; rfl
  have g4 : (0 : Int) < (s.size : Int) := by omega
  have g5 : (1 : Int) ≤ (s.size : Int) := by omega
  clear h43
  have t1 : ((p : Int) == 0) = false := beq_eq_false_iff_ne.2 (by omega)
  have t2 : ((p : Int) == (x.size : Int)) = false := beq_eq_false_iff_ne.2 (by omega)
  have t3 : (p : Int) < (x.size : Int) := by omega
  have t4 : ((x[p].toNat : Int) == 46) = true := by rw [h3]; rfl
  have t5 : ((x[p].toNat : Int) != 46) = false := by rw [bne, t4]; rfl
  have B := e16b x p E (by omega) hE hxs
  have t6 : ((E : Int) != (x.size : Int)) = false := by rw [h4]; simp
  have t7 : ((E : Int) == (p : Int) + 1) = false := beq_eq_false_iff_ne.2 (by omega)
  have t8 : (p : Int) + 5 < (E : Int) := by omega
  clear hp h h3 hE h4 h5
  go_enter Tryd.func10, Tryd.ntmps10
  go_wp2_with fail
  refine (A _).mono ?_
  rintro e w' ⟨rfl, rfl⟩
  simp only []
  go_wp2_with fail
  refine (B _).mono ?_
  rintro e w' ⟨rfl, rfl⟩
  simp only []
  go_wp2_with fail
  go_ret2
  exact ⟨rfl, rfl⟩

set_option maxHeartbeats 1000000 in
theorem dec10_plus_no (s : ByteArray) (w : World) (hs : s.size ≤ 1000000) (h0 : 0 < s.size) (h43 : s[0] = 43) (x : ByteArray) (hx : s.extract 1 s.size = x) (hxs : x.size ≤ 1000000) (p : Nat) (hp : dEnd (bs x) = p) (h : p ≠ 0) (h2 : p < x.size) (h3 : x[p] = 46) (E : Nat) (hE : p + 1 + dEnd ((bs x).drop (p + 1)) = E) (h4 : E = x.size) (h5 : E ≠ p + 1) (h6 : E ≤ p + 5) (q : Nat) (hq : E = p + 1 + q) (y1 y : ByteArray) (hy1 : x.extract 0 p ++ x.extract (p + 1) x.size = y1) (hy : y1 ++ (ByteArray.mk #[48, 48, 48, 48]).extract q 4 = y) (hysz : y.size ≤ 2000000) (hd : ∀ c ∈ bs y, PD.dig c = true) (hbig : ¬ PD.val (bs y) ≤ 9223372036854775808) :
    Calls Tryd.prog 10 #[.string s] w fun e w' => e = .returned (.tuple #[.int .i64 0, .bool false]) ∧ Below w.heap.size w w' := by
  have A := e16a x p hp hxs
  have g1 := isE (show s.size ≠ 0 by omega)
  have g2 : ((s[0].toNat : Int) == 45) = false := by rw [h43]; rfl
  have g3 : ((s[0].toNat : Int) == 43) = true := by rw [h43]; rfl
  have g4 : (0 : Int) < (s.size : Int) := by omega
  have g5 : (1 : Int) ≤ (s.size : Int) := by omega
  clear h43
  have t1 : ((p : Int) == 0) = false := beq_eq_false_iff_ne.2 (by omega)
  have t2 : ((p : Int) == (x.size : Int)) = false := beq_eq_false_iff_ne.2 (by omega)
  have t3 : (p : Int) < (x.size : Int) := by omega
  have t4 : ((x[p].toNat : Int) == 46) = true := by rw [h3]; rfl
  have t5 : ((x[p].toNat : Int) != 46) = false := by rw [bne, t4]; rfl
  have B := e16b x p E (by omega) hE hxs
  have t6 : ((E : Int) != (x.size : Int)) = false := by rw [h4]; simp
  have t7 : ((E : Int) == (p : Int) + 1) = false := beq_eq_false_iff_ne.2 (by omega)
  have t8 : ¬ (p : Int) + 5 < (E : Int) := by omega
  have t9 : (p : Int) ≤ (x.size : Int) := by omega
  have t10 : (p : Int) + 1 ≤ (x.size : Int) := by omega
  have t11 : ((p : Int) + 1).toNat = p + 1 := by omega
  have t12 : IntKind.i64.wrap ((p : Int) + 1) = (p : Int) + 1 := by rw [IntKind.wrap_i64]; omega
  have t13 : IntKind.i64.wrap ((E : Int) - (p : Int)) = (q : Int) + 1 := by rw [IntKind.wrap_i64]; omega
  have t14 : IntKind.i64.wrap ((q : Int) + 1 - 1) = (q : Int) := by rw [IntKind.wrap_i64]; omega
  have t15 : (q : Int) ≤ 4 := by omega
  have t16 : IntKind.i64.wrap (q : Int) = (q : Int) := by rw [IntKind.wrap_i64]; omega
  have sz : (x.extract 0 p).size + (x.extract (p + 1) x.size).size ≤ 9000000 := by simp; omega
  have C1 := catE (x.extract 0 p) (x.extract (p + 1) x.size) sz
  rw [hy1] at C1
  have sz2 : y1.size + ((ByteArray.mk #[48, 48, 48, 48]).extract q 4).size ≤ 9000000 := by
    rw [← hy1, ByteArray.size_append]
    have : ((ByteArray.mk #[48, 48, 48, 48]).extract q 4).size ≤ 4 := by simp; omega
    simp only [ByteArray.size_extract] at sz ⊢
    omega
  have C2 := catE y1 ((ByteArray.mk #[48, 48, 48, 48]).extract q 4) sz2
  rw [hy] at C2
  have HL := fun w => lowered17 y w (by omega) hd
  have e1 : lowV (bs y) = .tuple #[.int .i64 0, .bool false] := by unfold lowV; rw [if_neg hbig]
  rw [e1] at HL
  clear hp h h3 hE h4 h5 h6 hq hy1 hy hd hysz sz sz2 hbig e1
  go_enter Tryd.func10, Tryd.ntmps10
  go_wp2_with fail
  refine (A _).mono ?_
  rintro e w' ⟨rfl, rfl⟩
  simp only []
  go_wp2_with fail
  refine (B _).mono ?_
  rintro e w' ⟨rfl, rfl⟩
  simp only []
  go_wp2_with fail
  go_region_with (go_at_call 17; refine (HL _).mono ?_; rintro e w2 ⟨rfl, rfl⟩)
  all_goals
    go_wp2_with fail
    go_ret2
    exact ⟨rfl, Below.drew (Below.refl _ _)⟩

set_option maxHeartbeats 1000000 in
theorem dec10_plus_ok (s : ByteArray) (w : World) (hs : s.size ≤ 1000000) (h0 : 0 < s.size) (h43 : s[0] = 43) (x : ByteArray) (hx : s.extract 1 s.size = x) (hxs : x.size ≤ 1000000) (p : Nat) (hp : dEnd (bs x) = p) (h : p ≠ 0) (h2 : p < x.size) (h3 : x[p] = 46) (E : Nat) (hE : p + 1 + dEnd ((bs x).drop (p + 1)) = E) (h4 : E = x.size) (h5 : E ≠ p + 1) (h6 : E ≤ p + 5) (q : Nat) (hq : E = p + 1 + q) (y1 y : ByteArray) (hy1 : x.extract 0 p ++ x.extract (p + 1) x.size = y1) (hy : y1 ++ (ByteArray.mk #[48, 48, 48, 48]).extract q 4 = y) (hysz : y.size ≤ 2000000) (hd : ∀ c ∈ bs y, PD.dig c = true) (hbig : PD.val (bs y) ≤ 9223372036854775808) :
    Calls Tryd.prog 10 #[.string s] w fun e w' => e = .returned (optV (sgnO false (PD.val (bs y)))) ∧ Below w.heap.size w w' := by
  have A := e16a x p hp hxs
  have g1 := isE (show s.size ≠ 0 by omega)
  have g2 : ((s[0].toNat : Int) == 45) = false := by rw [h43]; rfl
  have g3 : ((s[0].toNat : Int) == 43) = true := by rw [h43]; rfl
  have g4 : (0 : Int) < (s.size : Int) := by omega
  have g5 : (1 : Int) ≤ (s.size : Int) := by omega
  clear h43
  have t1 : ((p : Int) == 0) = false := beq_eq_false_iff_ne.2 (by omega)
  have t2 : ((p : Int) == (x.size : Int)) = false := beq_eq_false_iff_ne.2 (by omega)
  have t3 : (p : Int) < (x.size : Int) := by omega
  have t4 : ((x[p].toNat : Int) == 46) = true := by rw [h3]; rfl
  have t5 : ((x[p].toNat : Int) != 46) = false := by rw [bne, t4]; rfl
  have B := e16b x p E (by omega) hE hxs
  have t6 : ((E : Int) != (x.size : Int)) = false := by rw [h4]; simp
  have t7 : ((E : Int) == (p : Int) + 1) = false := beq_eq_false_iff_ne.2 (by omega)
  have t8 : ¬ (p : Int) + 5 < (E : Int) := by omega
  have t9 : (p : Int) ≤ (x.size : Int) := by omega
  have t10 : (p : Int) + 1 ≤ (x.size : Int) := by omega
  have t11 : ((p : Int) + 1).toNat = p + 1 := by omega
  have t12 : IntKind.i64.wrap ((p : Int) + 1) = (p : Int) + 1 := by rw [IntKind.wrap_i64]; omega
  have t13 : IntKind.i64.wrap ((E : Int) - (p : Int)) = (q : Int) + 1 := by rw [IntKind.wrap_i64]; omega
  have t14 : IntKind.i64.wrap ((q : Int) + 1 - 1) = (q : Int) := by rw [IntKind.wrap_i64]; omega
  have t15 : (q : Int) ≤ 4 := by omega
  have t16 : IntKind.i64.wrap (q : Int) = (q : Int) := by rw [IntKind.wrap_i64]; omega
  have sz : (x.extract 0 p).size + (x.extract (p + 1) x.size).size ≤ 9000000 := by simp; omega
  have C1 := catE (x.extract 0 p) (x.extract (p + 1) x.size) sz
  rw [hy1] at C1
  have sz2 : y1.size + ((ByteArray.mk #[48, 48, 48, 48]).extract q 4).size ≤ 9000000 := by
    rw [← hy1, ByteArray.size_append]
    have : ((ByteArray.mk #[48, 48, 48, 48]).extract q 4).size ≤ 4 := by simp; omega
    simp only [ByteArray.size_extract] at sz ⊢
    omega
  have C2 := catE y1 ((ByteArray.mk #[48, 48, 48, 48]).extract q 4) sz2
  rw [hy] at C2
  have HL := fun w => lowered17 y w (by omega) hd
  have e1 : lowV (bs y) = .tuple #[.int .i64 (-(PD.val (bs y) : Int)), .bool true] := by unfold lowV; rw [if_pos hbig]
  rw [e1] at HL
  have SG := fun w => signedOr18 (PD.val (bs y)) false w hbig
  obtain ⟨V, hV⟩ : ∃ V, PD.val (bs y) = V := ⟨_, rfl⟩
  rw [hV] at SG HL ⊢
  have HO : ∃ n b, optV (sgnO false V) = .tuple #[.int .i64 n, .bool b] := by
    cases sgnO false V with
    | none => exact ⟨_, _, rfl⟩
    | some n => exact ⟨_, _, rfl⟩
  obtain ⟨n, b, hO⟩ := HO
  rw [hO] at SG ⊢
  clear hp h h3 hE h4 h5 h6 hq hy1 hy hd hysz sz sz2 hbig e1 hV hO
  go_enter Tryd.func10, Tryd.ntmps10
  go_wp2_with fail
  refine (A _).mono ?_
  rintro e w' ⟨rfl, rfl⟩
  simp only []
  go_wp2_with fail
  refine (B _).mono ?_
  rintro e w' ⟨rfl, rfl⟩
  simp only []
  go_wp2_with fail
  go_region_with (go_at_call 17; refine (HL _).mono ?_; rintro e w2 ⟨rfl, rfl⟩)
  all_goals
    go_wp2_with fail
    refine (SG _).mono ?_
    rintro e w3 ⟨rfl, rfl⟩
    simp only []
    go_wp2_with fail
    go_ret2
    exact ⟨rfl, Below.drew (Below.refl _ _)⟩

theorem dec10_empty (s : ByteArray) (w : World) (h0 : s.size = 0) : Calls Tryd.prog 10 #[.string s] w fun e w' => e = .returned (.tuple #[.int .i64 0, .bool false]) ∧ w' = w := by
  have g1 := isE0 h0
  have A := e16a s 0 (by rw [bs_nil s h0]; rfl) (by omega)
  go_enter Tryd.func10, Tryd.ntmps10
  go_wp2_with fail
  refine (A _).mono ?_
  rintro e w' ⟨rfl, rfl⟩
  simp only []
  go_wp2_with fail
  go_ret2
  exact ⟨rfl, rfl⟩
end Go.Proofs.YtgcgccglamfncaaDoor.Dec
