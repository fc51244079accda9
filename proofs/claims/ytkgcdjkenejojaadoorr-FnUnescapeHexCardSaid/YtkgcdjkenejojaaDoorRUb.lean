/-
  WALKS for FnUnescapeHex: the decoder at a byte below 128 (14), nextRune (8), errors.New (13).
-/
import Derived.Test.YtkgcdjkenejojaaDoorRUa
import Derived.Carry
namespace Go.Proofs.YtkgcdjkenejojaaDoorR.Uh
open Go.RowKit

set_option maxHeartbeats 400000 in
theorem dec14 (b o n c : Nat) (r : Nat) (w : World) (hn : 0 < n) (hr : r < 128) (hc : w.cell? ⟨b, o, none⟩ = some (.int .u8 r)) :
    Calls Tryd.prog 14 #[.slice (some ⟨b, o, none⟩) n c] w fun e w' => e = .returned (.tuple #[.int .i32 r, .int .i64 1]) ∧ w' = w := by
  have h0 : (0 : Int) < (n : Int) := by omega
  have h1 : (r : Int) < 128 := by omega
  go_enter Tryd.func14, Tryd.ntmps14
  go_wp2
  refine wp_loop_rounds 1 ?_
  rw [rounds_succ]
  go_wp2
  go_ret2
  exact ⟨rfl, rfl⟩

theorem new13 (s : ByteArray) (w : World) : Calls Tryd.prog 13 #[.string s] w fun e w' => (∃ T x, e = .returned (.iface T x)) ∧ Below w.heap.size w w' := by
  go_enter Tryd.func13, Tryd.ntmps13
  go_wp2
  go_ret
  exact ⟨⟨_, _, rfl⟩, (Below.refl _ _).alloc (Nat.le_refl _) _⟩

set_option maxHeartbeats 400000 in
theorem next8 (b n c i : Nat) (r : Nat) (w : World) (hn : i < n) (hnc : n ≤ c) (hr : r < 128) (hbig : c ≤ 9223372036854775807) (hc : w.cell? ⟨b, i, none⟩ = some (.int .u8 r)) :
    Calls Tryd.prog 8 #[.slice (some ⟨b, 0, none⟩) n c, .int .i64 i] w fun e w' => e = .returned (.tuple #[.int .i32 r, .int .i64 (i + 1 : Nat), .nilIface]) ∧ w' = w := by
  have h0 : (0 : Int) ≤ (i : Int) := by omega
  have h1 : (i : Int) ≤ (n : Int) := by omega
  have h2 : (i : Int) < (n : Int) := by omega
  have h3 : ((r : Int) == 65533) = false := beq_eq_false_iff_ne.2 (by omega)
  go_enter Tryd.func8, Tryd.ntmps8
  go_wp2_with fail
  refine (dec14 b i (n - i) (c - i) r w (by omega) hr hc).mono ?_
  rintro e w' ⟨rfl, rfl⟩
  simp only []
  go_wp2_with fail
  refine bodyPost_ret (v := .tuple #[.int .i32 r, .int .i64 (i + 1 : Nat), .nilIface]) (by simp [results, Tryd.results8, go_sem]) rfl ?_
  exact ⟨rfl, rfl⟩

/-- a slice of bytes that reads as l -/
def BytesAt (w : World) (b : Nat) (l : List Nat) : Prop := ∀ i, i < l.length → w.cell? ⟨b, i, none⟩ = some (.int .u8 (l.getD i 0 : Nat))

set_option maxHeartbeats 1000000 in
theorem parse11_ok (b n c i d1 d2 : Nat) (r1 r2 : Nat) (u : Bool) (w : World) (hn : i + 1 < n) (hnc : n ≤ c) (hbig : c ≤ 9223372036854775807) (hd1 : d1 < 16) (hd2 : d2 < 16) (e1 : (r1 : Int) = hx d1 u) (e2 : (r2 : Int) = hx d2 u) (hr1 : r1 < 128) (hr2 : r2 < 128)
    (c1 : w.cell? ⟨b, i, none⟩ = some (.int .u8 r1)) (c2 : w.cell? ⟨b, i + 1, none⟩ = some (.int .u8 r2)) (hv : 16 * d1 + d2 ≤ 127) :
    Calls Tryd.prog 11 #[.slice (some ⟨b, 0, none⟩) n c, .int .i64 i] w fun e w' => e = .returned (.tuple #[.int .i32 (16 * d1 + d2 : Nat), .int .i64 (i + 2 : Nat), .nilIface]) ∧ w' = w := by
  have N1 := fun w h => next8 b n c i r1 w (by omega) hnc hr1 hbig h
  have N2 := fun w h => next8 b n c (i + 1) r2 w hn hnc hr2 hbig h
  have H1 := isHex17 d1 u hd1
  have H2 := isHex17 d2 u hd2
  have D1 := dig18 d1 u hd1
  have D2 := dig18 d2 u hd2
  rw [← e1] at H1 D1
  rw [← e2] at H2 D2
  have b1 : 0 ≤ (d1 : Int) := by omega
  have b2 : (d1 : Int) ≤ 15 := by omega
  have b3 : 0 ≤ (d2 : Int) := by omega
  have b4 : (d2 : Int) ≤ 15 := by omega
  have b5 : ¬ (127 : Int) < 16 * (d1 : Int) + (d2 : Int) := by omega
  clear e1 e2 hv
  go_enter Tryd.func11, Tryd.ntmps11
  go_wp2_with fail
  refine (N1 w c1).mono ?_
  rintro e w' ⟨rfl, rfl⟩
  simp only []
  go_wp2_with fail
  refine (H1 _).mono ?_
  rintro e w' ⟨rfl, rfl⟩
  simp only []
  go_wp2_with fail
  refine (D1 _).mono ?_
  rintro e w' ⟨rfl, rfl⟩
  simp only []
  go_wp2_with fail
  refine (N2 _ c2).mono ?_
  rintro e w' ⟨rfl, rfl⟩
  simp only []
  go_wp2_with fail
  refine (H2 _).mono ?_
  rintro e w' ⟨rfl, rfl⟩
  simp only []
  go_wp2_with fail
  refine (D2 _).mono ?_
  rintro e w' ⟨rfl, rfl⟩
  simp only []
  go_wp2_with fail
  refine bodyPost_ret (v := .tuple #[.int .i32 (16 * d1 + d2 : Nat), .int .i64 (i + 2 : Nat), .nilIface]) (by simp [results, Tryd.results11, go_sem]; try omega) rfl ?_
  exact ⟨rfl, rfl⟩
end Go.Proofs.YtkgcdjkenejojaaDoorR.Uh
