/-
  WALKS for FnUnescapeHex: the law (3).
-/
import Derived.Test.YtkgcdjkenejojaaDoorRUi
import Derived.IntWalk
import Derived.Lib.SmallJoins
import Derived.Laws.Concat
namespace Go.Proofs.YtkgcdjkenejojaaDoorR.Uh
open Go.RowKit

theorem hex5 (n : Nat) (u : Bool) (w : World) (hn : n < 256) : Calls Tryd.prog 5 #[.int .u16 n, .int .i64 2, .bool u] w fun e w' => e = .returned (.string ⟨#[hxb (n / 16) u, hxb (n % 16) u]⟩) ∧ w' = w := by
  cases u
  · exact hex5_false n w hn
  · exact hex5_true n w hn

theorem conv_one (n : Nat) (w : World) : (convert 27 9 (.slice (some ⟨w.heap.size, 0, none⟩) 1 1)).run Tryd.prog (w.alloc (.cells #[.int .u8 (n : Int)] 5)) = .ok (.string ⟨#[UInt8.ofNat n]⟩) (w.alloc (.cells #[.int .u8 (n : Int)] 5)) := by
  have := run_convert_bytes_arg (P := Tryd.prog) (w.alloc (.cells #[.int .u8 (n : Int)] 5)) 27 5 Tryd.underlying27 Tryd.underlying5 w.heap.size 0 1 1 [(n : Int)] rfl (fun i hi => by
    have : i = 0 := by omega
    subst this
    simp only [World.cell?]; rw [heap_alloc_new w _]; rfl) 9 Tryd.underlying9
  simpa [strOfNums] using this

theorem cat4 (a b : UInt8) : (ByteArray.mk #[92, 120] ++ ByteArray.mk #[a, b]) = ByteArray.mk #[92, 120, a, b] := by apply ByteArray.ext; simp

set_option maxRecDepth 100000 in
set_option maxHeartbeats 2000000 in
theorem law3_lo (n : Nat) (u : Bool) (hn : n < 128) (w : World) : Calls Tryd.prog 3 #[.int .u8 n, .bool u] w fun e w' => e = .returned (.bool true) ∧ Below w.heap.size w w' := by
  have H := fun w => hex5 n u w (by omega)
  have U := unesc4_hex (n / 16) (n % 16) u (by omega) (by omega) (by omega)
  have hsum : 16 * (n / 16) + n % 16 = n := by omega
  rw [hsum] at U
  have CO := conv_one n
  have hw : IntKind.u16.wrap (n : Int) = n := IntWalk.u16_in _ ⟨by omega, by omega⟩
  have h1 : (n : Int) < 128 := by omega
  have h2 : ¬ (128 : Int) ≤ (n : Int) := by omega
  have CA := cat4 (hxb (n / 16) u) (hxb (n % 16) u)
  obtain ⟨a, ha⟩ : ∃ a, hxb (n / 16) u = a := ⟨_, rfl⟩
  obtain ⟨b, hb⟩ : ∃ a, hxb (n % 16) u = a := ⟨_, rfl⟩
  rw [ha, hb] at CA U
  simp only [ha, hb] at H
  clear hsum ha hb
  go_enter Tryd.func3, Tryd.ntmps3
  go_wp2_with fail
  refine (H _).mono ?_
  rintro e w' ⟨rfl, rfl⟩
  simp only []
  go_wp2_with fail
  refine (U _).mono ?_
  rintro e w2 ⟨rfl, hbl⟩
  have HBL := Lib.hid (hbl.alloc hbl.size (.cells #[.int .u8 (n : Int)] 5))
  clear hbl
  simp only []
  go_wp2_with fail
  go_ret
  exact ⟨rfl, HBL.out⟩

set_option maxRecDepth 100000 in
set_option maxHeartbeats 2000000 in
theorem law3_hi (n : Nat) (u : Bool) (hn : 128 ≤ n) (hn2 : n < 256) (w : World) : Calls Tryd.prog 3 #[.int .u8 n, .bool u] w fun e w' => e = .returned (.bool true) ∧ Below w.heap.size w w' := by
  have H := fun w => hex5 n u w hn2
  have U := unesc4_hex_bad (n / 16) (n % 16) u (by omega) (by omega) (by omega)
  have hw : IntKind.u16.wrap (n : Int) = n := IntWalk.u16_in _ ⟨by omega, by omega⟩
  have h2 : (128 : Int) ≤ (n : Int) := by omega
  have R := reads6
  have CA := cat4 (hxb (n / 16) u) (hxb (n % 16) u)
  obtain ⟨a, ha⟩ : ∃ a, hxb (n / 16) u = a := ⟨_, rfl⟩
  obtain ⟨b, hb⟩ : ∃ a, hxb (n % 16) u = a := ⟨_, rfl⟩
  rw [ha, hb] at CA U
  simp only [ha, hb] at H
  clear ha hb
  go_enter Tryd.func3, Tryd.ntmps3
  go_wp2_with fail
  refine (H _).mono ?_
  rintro e w' ⟨rfl, rfl⟩
  simp only []
  go_wp2_with fail
  refine (U _).mono ?_
  rintro e w2 ⟨rfl, hbl⟩
  have HBL := Lib.hid hbl
  clear hbl
  simp only []
  go_wp2_with fail
  refine (R _).mono ?_
  rintro e w3 ⟨rfl, hbl⟩
  have HBL2 := Lib.hid (HBL.out.trans (hbl.mono HBL.out.size))
  clear hbl
  simp only []
  go_wp2_with fail
  go_ret
  exact ⟨rfl, HBL2.out⟩

theorem law3 (n : Nat) (u : Bool) (hn : n < 256) (w : World) : Calls Tryd.prog 3 #[.int .u8 n, .bool u] w fun e w' => e = .returned (.bool true) ∧ Below w.heap.size w w' := by
  rcases Nat.lt_or_ge n 128 with h | h
  · exact law3_lo n u h w
  · exact law3_hi n u h hn w
end Go.Proofs.YtkgcdjkenejojaaDoorR.Uh
