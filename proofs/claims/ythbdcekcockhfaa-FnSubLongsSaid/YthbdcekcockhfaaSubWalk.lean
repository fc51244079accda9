/-
  WALKS for FnSubLongs: what the checked difference and the checked negative compute.
-/
import Derived.Test.YthbdcekcockhfaaRows
import Derived.WalkKit
import Derived.WalkSpells
import Derived.WalkLawsBesides
namespace Go.Proofs.Ythbdcekcockhfaa.SubWalk
open Go.RowKit

theorem wrap_hi {n : Int} (h : 9223372036854775807 < n) (h' : n ≤ 18446744073709551615) : wrap64 n = n - 18446744073709551616 := by
  unfold wrap64; omega
theorem wrap_lo {n : Int} (h : n < -9223372036854775808) (h' : -18446744073709551616 ≤ n) : wrap64 n = n + 18446744073709551616 := by
  unfold wrap64; omega

theorem sub16_ok (a b : Int) (w : World) (h1 : -9223372036854775808 ≤ a - b) (h2 : a - b ≤ 9223372036854775807) :
    Calls Try.prog 16 #[.int .i64 a, .int .i64 b] w fun e w' => e = .returned (.tuple #[.int .i64 (a - b), .bool true]) ∧ w' = w := by
  by_cases hb : b < 0
  · have hg : a < a - b := by omega
    go_enter Try.func16, Try.ntmps16
    go_wp2
    go_ret2
    exact ⟨rfl, rfl⟩
  · have hg : ¬ a < a - b := by omega
    go_enter Try.func16, Try.ntmps16
    go_wp2
    go_ret2
    exact ⟨rfl, rfl⟩
theorem sub16_no (a b : Int) (w : World) (ha : -9223372036854775808 ≤ a) (ha' : a ≤ 9223372036854775807) (hb : -9223372036854775808 ≤ b) (hb' : b ≤ 9223372036854775807) (h : a - b < -9223372036854775808 ∨ 9223372036854775807 < a - b) :
    Calls Try.prog 16 #[.int .i64 a, .int .i64 b] w fun e w' => e = .returned (.tuple #[.int .i64 (wrap64 (a - b)), .bool false]) ∧ w' = w := by
  rcases h with h | h
  · have hw := wrap_lo h (by omega)
    have hg : a < wrap64 (a - b) := by omega
    have hn : ¬ b < 0 := by omega
    clear hw
    go_enter Try.func16, Try.ntmps16
    go_wp2
    go_ret2
    exact ⟨rfl, rfl⟩
  · have hw := wrap_hi h (by omega)
    have hg : ¬ a < wrap64 (a - b) := by omega
    have hn : b < 0 := by omega
    clear hw
    go_enter Try.func16, Try.ntmps16
    go_wp2
    go_ret2
    exact ⟨rfl, rfl⟩
theorem sub_ok (a b : Int) (w : World) (h1 : -9223372036854775808 ≤ a - b) (h2 : a - b ≤ 9223372036854775807) :
    Calls Try.prog 6 #[.int .i64 a, .int .i64 b] w fun e w' => e = .returned (.tuple #[.int .i64 (a - b), .bool true]) ∧ w' = w := by
  have h12 : Calls Try.prog 12 #[.int .i64 a, .int .i64 b] w fun e w' => e = .returned (.tuple #[.int .i64 (a - b), .bool true]) ∧ w' = w := by
    go_enter Try.func12, Try.ntmps12
    go_wp2_with (go_at_call 16; refine (sub16_ok a b _ h1 h2).mono ?_; rintro e w' ⟨rfl, rfl⟩)
    go_ret2
    exact ⟨rfl, rfl⟩
  have H := h12
  clear h12
  go_enter Try.func6, Try.ntmps6
  go_wp2_with (go_at_call 12; refine H.mono ?_; rintro e w' ⟨rfl, rfl⟩)
  go_ret2
  exact ⟨rfl, rfl⟩
theorem sub_no (a b : Int) (w : World) (ha : -9223372036854775808 ≤ a) (ha' : a ≤ 9223372036854775807) (hb : -9223372036854775808 ≤ b) (hb' : b ≤ 9223372036854775807) (h : a - b < -9223372036854775808 ∨ 9223372036854775807 < a - b) :
    Calls Try.prog 6 #[.int .i64 a, .int .i64 b] w fun e w' => e = .returned (.tuple #[.int .i64 (wrap64 (a - b)), .bool false]) ∧ w' = w := by
  have H : Calls Try.prog 12 #[.int .i64 a, .int .i64 b] w fun e w' => e = .returned (.tuple #[.int .i64 (wrap64 (a - b)), .bool false]) ∧ w' = w := by
    go_enter Try.func12, Try.ntmps12
    go_wp2_with (go_at_call 16; refine (sub16_no a b _ ha ha' hb hb' h).mono ?_; rintro e w' ⟨rfl, rfl⟩)
    go_ret2
    exact ⟨rfl, rfl⟩
  go_enter Try.func6, Try.ntmps6
  go_wp2_with (go_at_call 12; refine H.mono ?_; rintro e w' ⟨rfl, rfl⟩)
  go_ret2
  exact ⟨rfl, rfl⟩
theorem neg_ok (a : Int) (w : World) (h1 : -9223372036854775808 < a) (h2 : a ≤ 9223372036854775807) :
    Calls Try.prog 7 #[.int .i64 a] w fun e w' => e = .returned (.tuple #[.int .i64 (-a), .bool true]) ∧ w' = w := by
  go_enter Try.func7, Try.ntmps7
  go_wp2
  go_ret2
  exact ⟨rfl, rfl⟩
theorem neg_no (w : World) :
    Calls Try.prog 7 #[.int .i64 (-9223372036854775808)] w fun e w' => e = .returned (.tuple #[.int .i64 0, .bool false]) ∧ w' = w := by
  go_enter Try.func7, Try.ntmps7
  go_wp2
  go_ret2
  exact ⟨rfl, rfl⟩
end Go.Proofs.Ythbdcekcockhfaa.SubWalk
