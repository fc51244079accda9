/-
  WALKS for FnUnescapeHex: parseHexEscape refused (11), hex (5). Printed in part by mkUc.py.
-/
import Derived.Test.YtkgcdjkenejojaaDoorRUb
namespace Go.Proofs.YtkgcdjkenejojaaDoorR.Uh
open Go.RowKit

set_option maxHeartbeats 1000000 in
theorem parse11_bad (b n c i d1 d2 : Nat) (r1 r2 : Nat) (u : Bool) (w : World) (hn : i + 1 < n) (hnc : n ≤ c) (hbig : c ≤ 9223372036854775807) (hd1 : d1 < 16) (hd2 : d2 < 16) (e1 : (r1 : Int) = hx d1 u) (e2 : (r2 : Int) = hx d2 u) (hr1 : r1 < 128) (hr2 : r2 < 128)
    (c1 : w.cell? ⟨b, i, none⟩ = some (.int .u8 r1)) (c2 : w.cell? ⟨b, i + 1, none⟩ = some (.int .u8 r2)) (hv : ¬ 16 * d1 + d2 ≤ 127) :
    Calls Tryd.prog 11 #[.slice (some ⟨b, 0, none⟩) n c, .int .i64 i] w fun e w' => (∃ T x, e = .returned (.tuple #[.int .i32 0, .int .i64 (i + 2 : Nat), .iface T x])) ∧ Below w.heap.size w w' := by
  have N1 := fun w h => next8 b n c i r1 w (by omega) hnc hr1 hbig h
  have N2 := fun w h => next8 b n c (i + 1) r2 w hn hnc hr2 hbig h
  have H1 := isHex17 d1 u hd1
  have H2 := isHex17 d2 u hd2
  have D1 := dig18 d1 u hd1
  have D2 := dig18 d2 u hd2
  rw [← e1] at H1 D1
  rw [← e2] at H2 D2
  have b1 : 0 ≤ (d1 : Int) := by omega
  have b2 : (d1 : Int) ≤ 15 := by omega
  have b3 : 0 ≤ (d2 : Int) := by omega
  have b4 : (d2 : Int) ≤ 15 := by omega
  have b5 : (127 : Int) < 16 * (d1 : Int) + (d2 : Int) := by omega
  clear e1 e2 hv
  go_enter Tryd.func11, Tryd.ntmps11
  go_wp2_with fail
  refine (N1 w c1).mono ?_
  rintro e w' ⟨rfl, rfl⟩
  simp only []
  go_wp2_with fail
  refine (H1 _).mono ?_
  rintro e w' ⟨rfl, rfl⟩
  simp only []
  go_wp2_with fail
  refine (D1 _).mono ?_
  rintro e w' ⟨rfl, rfl⟩
  simp only []
  go_wp2_with fail
  refine (N2 _ c2).mono ?_
  rintro e w' ⟨rfl, rfl⟩
  simp only []
  go_wp2_with fail
  refine (H2 _).mono ?_
  rintro e w' ⟨rfl, rfl⟩
  simp only []
  go_wp2_with fail
  refine (D2 _).mono ?_
  rintro e w' ⟨rfl, rfl⟩
  simp only []
  go_wp2_with fail
  refine (new13 _ _).mono ?_
  rintro e w' ⟨⟨T, x, rfl⟩, hb⟩
  have HB := Lib.hid hb
  clear hb
  simp only []
  go_wp2_with fail
  refine bodyPost_ret (v := .tuple #[.int .i32 0, .int .i64 (i + 2 : Nat), .iface T x]) (by simp [results, Tryd.results11, go_sem]; try omega) rfl ?_
  exact ⟨⟨T, x, rfl⟩, HB.out⟩

/-- the letters of the digits -/
def letters (u : Bool) : ByteArray := if u then ⟨#[48, 49, 50, 51, 52, 53, 54, 55, 56, 57, 65, 66, 67, 68, 69, 70]⟩ else ⟨#[48, 49, 50, 51, 52, 53, 54, 55, 56, 57, 97, 98, 99, 100, 101, 102]⟩
def hxb (d : Nat) (u : Bool) : UInt8 := UInt8.ofNat (hx d u).toNat
theorem letter_at (d : Nat) (hd : d < 16) (u : Bool) : (letters u).extract d (d + 1) = ⟨#[hxb d u]⟩ := by
  have H : ∀ d : Fin 16, ∀ u : Bool, (letters u).extract d.val (d.val + 1) = ⟨#[hxb d.val u]⟩ := by decide
  exact H ⟨d, hd⟩ u
theorem hxb_nat (d : Nat) (hd : d < 16) (u : Bool) : ((hxb d u).toNat : Int) = hx d u ∧ (hxb d u).toNat < 128 := by
  have H : ∀ d : Fin 16, ∀ u : Bool, ((hxb d.val u).toNat : Int) = hx d.val u ∧ (hxb d.val u).toNat < 128 := by decide
  exact H ⟨d, hd⟩ u

theorem cat1 (a : UInt8) : (ByteArray.mk #[a] ++ ByteArray.mk #[]) = ByteArray.mk #[a] := by apply ByteArray.ext; simp
theorem cat2 (a b : UInt8) : (ByteArray.mk #[a] ++ ByteArray.mk #[b]) = ByteArray.mk #[a, b] := by apply ByteArray.ext; simp

set_option maxHeartbeats 1000000 in
theorem hex5_true (n : Nat) (w : World) (hn : n < 256) : Calls Tryd.prog 5 #[.int .u16 n, .int .i64 2, .bool true] w fun e w' => e = .returned (.string ⟨#[hxb (n / 16) true, hxb (n % 16) true]⟩) ∧ w' = w := by
  have l1 : (ByteArray.mk #[48, 49, 50, 51, 52, 53, 54, 55, 56, 57, 65, 66, 67, 68, 69, 70]).extract (n % 16) (n % 16 + 1) = ⟨#[hxb (n % 16) true]⟩ := letter_at (n % 16) (by omega) true
  have l2 : (ByteArray.mk #[48, 49, 50, 51, 52, 53, 54, 55, 56, 57, 65, 66, 67, 68, 69, 70]).extract (n / 16 % 16) (n / 16 % 16 + 1) = ⟨#[hxb (n / 16) true]⟩ := by
    rw [show n / 16 % 16 = n / 16 by omega]; exact letter_at (n / 16) (by omega) true
  go_enter Tryd.func5, Tryd.ntmps5
  go_wp2
  go_loop [0, 8] (fun n' s' => (n' = .int .u16 n ∧ s' = .string ⟨#[]⟩) ∨ (n' = .int .u16 (n / 16 : Nat) ∧ s' = .string ⟨#[hxb (n % 16) true]⟩) ∨ (n' = .int .u16 0 ∧ s' = .string ⟨#[hxb (n / 16) true, hxb (n % 16) true]⟩)) (fun _ s' => match s' with | .string x => 2 - x.size | _ => 0)
  case atStart => exact .inl ⟨rfl, rfl⟩
  case round =>
    rcases hrel with ⟨rfl, rfl⟩ | ⟨rfl, rfl⟩ | ⟨rfl, rfl⟩
    · by_cases h0 : (0 : Int) < (n : Int)
      · go_wp2_with fail
        exact ⟨.inr (.inl ⟨congrArg (Value.int .u16) (by omega), congrArg Value.string (cat1 _)⟩), by rw [cat1]; show 2 - (ByteArray.mk #[hxb (n % 16) true]).size < 2 - 0; rw [show (ByteArray.mk #[hxb (n % 16) true]).size = 1 from rfl]; decide⟩
      · obtain rfl : n = 0 := by omega
        go_wp2_with fail
        exact ⟨.inr (.inl ⟨congrArg (Value.int .u16) (by omega), congrArg Value.string (cat1 _)⟩), by show 2 - ByteArray.size _ < 2 - ByteArray.size _; (rw [cat1]; decide)⟩
    · generalize hm : n / 16 = m at *
      have hm16 : m < 16 := by omega
      clear hm
      by_cases h0 : (0 : Int) < (m : Int)
      · go_wp2_with fail
        exact ⟨.inr (.inr ⟨congrArg (Value.int .u16) (by omega), congrArg Value.string (cat2 _ _)⟩), by rw [cat2]; show 2 - (ByteArray.mk #[hxb (m) true, hxb (n % 16) true]).size < 2 - (ByteArray.mk #[hxb (n % 16) true]).size; rw [show (ByteArray.mk #[hxb (n % 16) true]).size = 1 from rfl, show (ByteArray.mk #[hxb (m) true, hxb (n % 16) true]).size = 2 from rfl]; decide⟩
      · obtain rfl : m = 0 := by omega
        go_wp2_with fail
        exact ⟨.inr (.inr ⟨congrArg (Value.int .u16) (by omega), congrArg Value.string (cat2 _ _)⟩), by rw [cat2]; show 2 - (ByteArray.mk #[hxb (0) true, hxb (n % 16) true]).size < 2 - (ByteArray.mk #[hxb (n % 16) true]).size; rw [show (ByteArray.mk #[hxb (n % 16) true]).size = 1 from rfl, show (ByteArray.mk #[hxb (0) true, hxb (n % 16) true]).size = 2 from rfl]; decide⟩
    · go_wp2_with fail
      go_ret
      exact ⟨rfl, rfl⟩

set_option maxHeartbeats 1000000 in
theorem hex5_false (n : Nat) (w : World) (hn : n < 256) : Calls Tryd.prog 5 #[.int .u16 n, .int .i64 2, .bool false] w fun e w' => e = .returned (.string ⟨#[hxb (n / 16) false, hxb (n % 16) false]⟩) ∧ w' = w := by
  have l1 : (ByteArray.mk #[48, 49, 50, 51, 52, 53, 54, 55, 56, 57, 97, 98, 99, 100, 101, 102]).extract (n % 16) (n % 16 + 1) = ⟨#[hxb (n % 16) false]⟩ := letter_at (n % 16) (by omega) false
  have l2 : (ByteArray.mk #[48, 49, 50, 51, 52, 53, 54, 55, 56, 57, 97, 98, 99, 100, 101, 102]).extract (n / 16 % 16) (n / 16 % 16 + 1) = ⟨#[hxb (n / 16) false]⟩ := by
    rw [show n / 16 % 16 = n / 16 by omega]; exact letter_at (n / 16) (by omega) false
  go_enter Tryd.func5, Tryd.ntmps5
  go_wp2
  go_loop [0, 8] (fun n' s' => (n' = .int .u16 n ∧ s' = .string ⟨#[]⟩) ∨ (n' = .int .u16 (n / 16 : Nat) ∧ s' = .string ⟨#[hxb (n % 16) false]⟩) ∨ (n' = .int .u16 0 ∧ s' = .string ⟨#[hxb (n / 16) false, hxb (n % 16) false]⟩)) (fun _ s' => match s' with | .string x => 2 - x.size | _ => 0)
  case atStart => exact .inl ⟨rfl, rfl⟩
  case round =>
    rcases hrel with ⟨rfl, rfl⟩ | ⟨rfl, rfl⟩ | ⟨rfl, rfl⟩
    · by_cases h0 : (0 : Int) < (n : Int)
      · go_wp2_with fail
        exact ⟨.inr (.inl ⟨congrArg (Value.int .u16) (by omega), congrArg Value.string (cat1 _)⟩), by rw [cat1]; show 2 - (ByteArray.mk #[hxb (n % 16) false]).size < 2 - 0; rw [show (ByteArray.mk #[hxb (n % 16) false]).size = 1 from rfl]; decide⟩
      · obtain rfl : n = 0 := by omega
        go_wp2_with fail
        exact ⟨.inr (.inl ⟨congrArg (Value.int .u16) (by omega), congrArg Value.string (cat1 _)⟩), by show 2 - ByteArray.size _ < 2 - ByteArray.size _; (rw [cat1]; decide)⟩
    · generalize hm : n / 16 = m at *
      have hm16 : m < 16 := by omega
      clear hm
      by_cases h0 : (0 : Int) < (m : Int)
      · go_wp2_with fail
        exact ⟨.inr (.inr ⟨congrArg (Value.int .u16) (by omega), congrArg Value.string (cat2 _ _)⟩), by rw [cat2]; show 2 - (ByteArray.mk #[hxb (m) false, hxb (n % 16) false]).size < 2 - (ByteArray.mk #[hxb (n % 16) false]).size; rw [show (ByteArray.mk #[hxb (n % 16) false]).size = 1 from rfl, show (ByteArray.mk #[hxb (m) false, hxb (n % 16) false]).size = 2 from rfl]; decide⟩
      · obtain rfl : m = 0 := by omega
        go_wp2_with fail
        exact ⟨.inr (.inr ⟨congrArg (Value.int .u16) (by omega), congrArg Value.string (cat2 _ _)⟩), by rw [cat2]; show 2 - (ByteArray.mk #[hxb (0) false, hxb (n % 16) false]).size < 2 - (ByteArray.mk #[hxb (n % 16) false]).size; rw [show (ByteArray.mk #[hxb (n % 16) false]).size = 1 from rfl, show (ByteArray.mk #[hxb (0) false, hxb (n % 16) false]).size = 2 from rfl]; decide⟩
    · go_wp2_with fail
      go_ret
      exact ⟨rfl, rfl⟩
end Go.Proofs.YtkgcdjkenejojaaDoorR.Uh
