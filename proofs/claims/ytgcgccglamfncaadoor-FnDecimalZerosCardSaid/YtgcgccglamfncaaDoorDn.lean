/-
  FnDecimalZeros: the plain law; the walk of the law (4).
-/
import Derived.Test.YtgcgccglamfncaaDoorDm
import Derived.Deep.RegionHeld3
import Derived.IntWalk
import Derived.Laws.Concat
namespace Go.Proofs.YtgcgccglamfncaaDoor.Dec
open Go.RowKit Go.ChangeMaps

theorem digs4 {n : Nat} {t : Bs} (h : Digs n 4 t) (hn : n < 10000) : t.length = 4 := by
  have h1 := h.low
  rcases h.cap with h2 | h2
  · omega
  · rcases Nat.lt_or_ge 4 t.length with h3 | h3
    · have : 10 ^ 4 ≤ 10 ^ (t.length - 1) := Nat.pow_le_pow_right (by decide) (by omega)
      omega
    · omega
theorem zeros_parts {n k : Nat} {a b : Bs} (ha : Digs (n / 10000) 1 a) (hb : Digs (n % 10000) 4 b) : Parts (zs k ++ (a ++ 46 :: b)) false (zs k ++ a) b := by
  have hb4 := digs4 hb (by omega)
  have hne : zs k ++ a ≠ [] := by
    intro h
    have := ha.low
    rw [(List.append_eq_nil_iff.1 h).2] at this
    simp at this
  have hall : allDig (zs k ++ a) := by
    intro c hc
    rcases List.mem_append.1 hc with h | h
    · rw [List.eq_of_mem_replicate h]; decide
    · exact ha.all c h
  refine ⟨?_, hne, hall, hb.all, by omega, by omega⟩
  rw [← List.append_assoc]
  obtain ⟨c, r, hc⟩ := List.exists_cons_of_ne_nil hne
  have hd := dig_not (hall c (by rw [hc]; simp))
  rw [hc]
  simp only [List.cons_append, cutS]
  rw [if_neg hd.2.1, if_neg hd.2.2]
theorem zeros_val {n k : Nat} {a b : Bs} (ha : Digs (n / 10000) 1 a) (hb : Digs (n % 10000) 4 b) (hn : n ≤ 9223372036854775807) : pkgO (zs k ++ (a ++ 46 :: b)) = some (n : Int) := by
  rw [pkg_of (zeros_parts ha hb)]
  have hb4 := digs4 hb (by omega)
  have : mag (zs k ++ a) b = n := by
    unfold mag
    rw [val_append, show PD.val (zs k) = 0 from val_zeros k, ha.v, hb.v, hb4, show pn (4 - 4) = 1 from rfl]
    omega
  rw [this]
  unfold sgnO
  rw [if_pos (.inl hn)]
  rfl
theorem bs_app (x y : ByteArray) : bs (x ++ y) = bs x ++ bs y := by
  unfold bs; simp
theorem size_app (x y : ByteArray) : (x ++ y).size = x.size + y.size := by
  rw [← bs_len, bs_app, List.length_append, bs_len, bs_len]
theorem cat_run (x y : ByteArray) (h : x.size + y.size ≤ 1000) (w : World) : (Op.stringOp .add x y).run Tryd.prog w = .ok (.string (x ++ y)) w := run_string_add_sum w x y (by omega)
theorem zs_next (k : Nat) (l : Bs) : (ByteArray.mk #[48] ++ ByteArray.mk (zs k ++ l).toArray) = ByteArray.mk (zs (k + 1) ++ l).toArray := by
  have := ba_cons 48 (zs k ++ l)
  rw [show ByteArray.mk #[48] = ByteArray.mk [(48 : UInt8)].toArray from rfl, this]
  rfl

theorem impl_zeros {n k : Nat} {a b : Bs} (ha : Digs (n / 10000) 1 a) (hb : Digs (n % 10000) 4 b) (hn : n ≤ 9223372036854775807) (hl : (zs k ++ (a ++ 46 :: b)).length ≤ 1000) (w : World) (E : Env w) :
    Calls Tryd.prog 5 #[.string ⟨(zs k ++ (a ++ 46 :: b)).toArray⟩] w fun e w' => e = .returned (.tuple #[.int .i64 n, .bool true]) ∧ Below w.heap.size w w' := by
  have C := impl5 ⟨(zs k ++ (a ++ 46 :: b)).toArray⟩ w (by rw [sz_mk]; omega) E
  rw [bs_mk, zeros_val ha hb hn] at C
  exact C

theorem law4_neg (n z : Int) (w : World) (h : n < 0) : Calls Tryd.prog 4 #[.int .i64 n, .int .u8 z] w fun e w' => e = .returned (.bool true) ∧ Below w.heap.size w w' := by
  go_enter Tryd.func4, Tryd.ntmps4
  go_wp2_with fail
  go_ret
  exact ⟨rfl, Below.refl _ _⟩

set_option maxHeartbeats 2000000 in
theorem law4_pos (n z : Nat) (w : World) (E : Env w) (hn : n ≤ 9223372036854775807) (hz : z < 256) : Calls Tryd.prog 4 #[.int .i64 n, .int .u8 z] w fun e w' => e = .returned (.bool true) ∧ Below w.heap.size w w' := by
  have h0 : ¬ (n : Int) < 0 := by omega
  have w1 : IntKind.u64.wrap (n : Int) = n := IntWalk.u64_in _ (by omega)
  have HE := Lib.hid E
  have e1 := Lib.hid (show (n : Int) / 10000 = ((n / 10000 : Nat) : Int) by omega)
  have e2 := Lib.hid (show (n : Int) % 10000 = ((n % 10000 : Nat) : Int) by omega)
  have e3 := Lib.hid (show (z : Int) % 51 = ((z % 51 : Nat) : Int) by omega)
  clear E
  go_enter Tryd.func4, Tryd.ntmps4
  go_wp2_with fail
  rw [e1.out]
  refine (digits7 (n / 10000) 1 _ (by omega) (by decide)).mono ?_
  rintro e wa ⟨⟨a, rfl, ha, la⟩, ba⟩
  have HA := Lib.hid ha
  have HB := Lib.hid ba
  clear ha ba
  simp only []
  have ct1 := cat_run ⟨a.toArray⟩ ⟨#[46]⟩ (by rw [sz_mk]; show a.length + 1 ≤ 1000; omega)
  go_wp2_with fail
  rw [e2.out]
  refine (digits7 (n % 10000) 4 _ (by omega) (by decide)).mono ?_
  rintro e wb ⟨⟨b, rfl, hb, lb⟩, bb⟩
  have HA2 := Lib.hid hb
  have HB2 := Lib.hid (HB.out.trans (bb.mono HB.out.size))
  clear hb bb
  simp only []
  have hcat : (ByteArray.mk a.toArray ++ ByteArray.mk #[46]) ++ ByteArray.mk b.toArray = ByteArray.mk (zs 0 ++ (a ++ 46 :: b)).toArray := by
    apply ByteArray.ext
    simp [zs]
  have ct2 := cat_run (ByteArray.mk a.toArray ++ ByteArray.mk #[46]) ⟨b.toArray⟩ (by rw [size_app, sz_mk, sz_mk]; show a.length + 1 + b.length ≤ 1000; omega)
  rw [hcat] at ct2
  go_wp2
  have hE : Env wb := HE.out.below HB2.out
  have HLL := Lib.hid (show (a ++ 46 :: b).length ≤ 60 by simp; omega)
  have HC := Lib.hid (fun k (hk : (zs k ++ (a ++ 46 :: b)).length ≤ 1000) => impl_zeros (k := k) HA.out HA2.out hn hk wb hE)
  generalize a ++ 46 :: b = l at HLL HC ⊢
  clear ct1 ct2 hcat w1 h0 hE
  go_loop [5, 6] (fun s' k' => ∃ k : Nat, k' = .int .i64 k ∧ s' = .string ⟨(zs k ++ l).toArray⟩ ∧ k ≤ z % 51) (fun _ k' => 51 - (intZ k').toNat)
  case atStart => exact ⟨0, rfl, rfl, Nat.zero_le _⟩
  case round =>
    obtain ⟨k, rfl, rfl, hk⟩ := hrel
    have wz : IntKind.i64.wrap (z : Int) = z := IntWalk.i64_in _ (by omega)
    have hlen : (zs k ++ l).length ≤ 111 := by
      have := HLL.out
      rw [List.length_append]
      unfold zs
      rw [List.length_replicate]
      omega
    have HN := Lib.hid hlen
    by_cases h : k < z % 51
    · have h' : (k : Int) < (z : Int) % 51 := by omega
      have ct := cat_run ⟨#[48]⟩ ⟨(zs k ++ l).toArray⟩ (by rw [sz_mk]; show 1 + (zs k ++ l).length ≤ 1000; omega)
      rw [zs_next] at ct
      clear hlen
      go_wp2_with fail
      refine ⟨⟨k + 1, rfl, rfl, h⟩, ?_⟩
      simp [intZ]
      omega
    · have h' : ¬ (k : Int) < (z : Int) % 51 := by omega
      go_wp2_with fail
      refine (HC.out k (by have := HN.out; omega)).mono ?_
      rintro e wc ⟨rfl, bc⟩
      have HB3 := Lib.hid (HB2.out.trans (bc.mono HB2.out.size))
      clear bc
      simp only []
      go_wp2_with fail
      go_ret
      refine ⟨?_, HB3.out⟩
      first | rfl | (show Ending.returned (.bool _) = _; simp)

theorem law4 (n : Int) (z : Nat) (w : World) (E : Env w) (hn : n ≤ 9223372036854775807) (hz : z < 256) : Calls Tryd.prog 4 #[.int .i64 n, .int .u8 z] w fun e w' => e = .returned (.bool true) ∧ Below w.heap.size w w' := by
  by_cases h : n < 0
  · exact law4_neg n z w h
  · obtain ⟨m, rfl⟩ := Int.eq_ofNat_of_zero_le (by omega : 0 ≤ n)
    exact law4_pos m z w E (by omega) hz
end Go.Proofs.YtgcgccglamfncaaDoor.Dec
