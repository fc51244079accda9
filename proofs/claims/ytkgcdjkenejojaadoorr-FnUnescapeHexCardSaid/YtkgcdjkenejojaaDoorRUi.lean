/-
  WALKS for FnUnescapeHex: Unescape (4) of the package impl, reads7 (6).
-/
import Derived.Test.YtkgcdjkenejojaaDoorRUh
import Derived.Lib.ConvBytes
import Derived.Lib.SmallJoins
import Derived.Laws.IdiomStrings
namespace Go.Proofs.YtkgcdjkenejojaaDoorR.Uh
open Go.RowKit

theorem conv_empty (a : Option Addr) (c : Nat) (w : World) : (convert 27 9 (.slice a 0 c)).run Tryd.prog w = .ok (.string ⟨#[]⟩) w := by
  rw [run_convert_bytes_string w 27 9 5 a 0 c Tryd.underlying27 Tryd.underlying5 Tryd.underlying9]
  cases a <;> simp [Conv.bytesToString] <;> rfl

set_option maxRecDepth 100000 in
set_option maxHeartbeats 2000000 in
theorem unesc4_ok (s x : ByteArray) (w : World)
    (P7 : ∀ c, s.size ≤ c → c ≤ 9223372036854775807 → Calls Tryd.prog 7 #[.slice (some ⟨w.heap.size, 0, none⟩) s.size c, .bool false] (Lib.bytesWorld w 5 s) fun e w' => (∃ a c', e = .returned (.tuple #[.string x, .slice a 0 c', .nilIface])) ∧ Below (Lib.bytesWorld w 5 s).heap.size (Lib.bytesWorld w 5 s) w')
    (hs : s.size ≤ 1000) :
    Calls Tryd.prog 4 #[.string s, .bool false] w fun e w' => e = .returned (.tuple #[.string x, .string ⟨#[]⟩, .bool true]) ∧ Below w.heap.size w w' := by
  have P := P7 (grownCap w s.size 0 5) (grownCap_ge _ _ _ _) (by have := grownCap_le_maxLen w s.size 0 5 (by unfold maxLen; omega); unfold maxLen at this; omega)
  have CV := Lib.run_convert_string_bytes w 9 27 5 s Tryd.underlying9 Tryd.underlying27 Tryd.underlying5
  have CE := conv_empty
  clear P7
  go_enter Tryd.func4, Tryd.ntmps4
  go_wp2_with fail
  refine P.mono ?_
  rintro e w' ⟨⟨a, c', rfl⟩, hbl⟩
  have HBL := Lib.hid (((Go.Joins.below_bytesWorld w.heap.size w 5 s (Nat.le_refl _)).trans (hbl.mono (by rw [Lib.bytesWorld_size]; omega))).drew)
  clear hbl
  simp only []
  go_wp2_with fail
  go_region
  all_goals
    go_wp2_with fail
    go_ret3
    exact ⟨rfl, HBL.out⟩

set_option maxRecDepth 100000 in
set_option maxHeartbeats 2000000 in
theorem unesc4_bad (s : ByteArray) (w : World)
    (P7 : ∀ c, s.size ≤ c → c ≤ 9223372036854775807 → Calls Tryd.prog 7 #[.slice (some ⟨w.heap.size, 0, none⟩) s.size c, .bool false] (Lib.bytesWorld w 5 s) fun e w' => (∃ T x, e = .returned (.tuple #[.string ⟨#[]⟩, .slice none 0 0, .iface T x])) ∧ Below (Lib.bytesWorld w 5 s).heap.size (Lib.bytesWorld w 5 s) w')
    (hs : s.size ≤ 1000) :
    Calls Tryd.prog 4 #[.string s, .bool false] w fun e w' => e = .returned (.tuple #[.string ⟨#[]⟩, .string ⟨#[]⟩, .bool false]) ∧ Below w.heap.size w w' := by
  have P := P7 (grownCap w s.size 0 5) (grownCap_ge _ _ _ _) (by have := grownCap_le_maxLen w s.size 0 5 (by unfold maxLen; omega); unfold maxLen at this; omega)
  have CV := Lib.run_convert_string_bytes w 9 27 5 s Tryd.underlying9 Tryd.underlying27 Tryd.underlying5
  have CE := conv_empty
  clear P7
  go_enter Tryd.func4, Tryd.ntmps4
  go_wp2_with fail
  refine P.mono ?_
  rintro e w' ⟨⟨T, x, rfl⟩, hbl⟩
  have HBL := Lib.hid (((Go.Joins.below_bytesWorld w.heap.size w 5 s (Nat.le_refl _)).trans (hbl.mono (by rw [Lib.bytesWorld_size]; omega))).drew)
  clear hbl
  simp only []
  go_wp2_with fail
  go_region
  all_goals
    go_wp2_with fail
    go_ret3
    exact ⟨rfl, HBL.out⟩

theorem bytes_at (w : World) (s : ByteArray) (j : Nat) (hj : j < s.size) (v : Nat) (hv : (s.data.toList.getD j 0).toNat = v) : (Lib.bytesWorld w 5 s).cell? ⟨w.heap.size, j, none⟩ = some (.int .u8 v) := by
  rw [Lib.bytesWorld_cell w 5 s j hj, hv]

theorem unesc4_97 (w : World) : Calls Tryd.prog 4 #[.string ⟨#[97]⟩, .bool false] w fun e w' => e = .returned (.tuple #[.string ⟨#[97]⟩, .string ⟨#[]⟩, .bool true]) ∧ Below w.heap.size w w' := by
  refine unesc4_ok ⟨#[97]⟩ ⟨#[97]⟩ w (fun c h1 h2 => ?_) (by decide)
  exact unq7_one w.heap.size c _ h1 h2 (bytes_at w ⟨#[97]⟩ 0 (by decide) 97 rfl) (by rw [Lib.bytesWorld_size]; omega)

theorem unesc4_hex (d1 d2 : Nat) (u : Bool) (hd1 : d1 < 16) (hd2 : d2 < 16) (hv : 16 * d1 + d2 ≤ 127) (w : World) :
    Calls Tryd.prog 4 #[.string ⟨#[92, 120, hxb d1 u, hxb d2 u]⟩, .bool false] w fun e w' => e = .returned (.tuple #[.string ⟨#[UInt8.ofNat (16 * d1 + d2)]⟩, .string ⟨#[]⟩, .bool true]) ∧ Below w.heap.size w w' := by
  refine unesc4_ok _ _ w (fun c h1 h2 => ?_) (show (4 : Nat) ≤ 1000 by decide)
  exact unq7_ok w.heap.size c d1 d2 _ _ u _ h1 h2 hd1 hd2 (hxb_nat d1 hd1 u).1 (hxb_nat d2 hd2 u).1 (hxb_nat d1 hd1 u).2 (hxb_nat d2 hd2 u).2
    (bytes_at w ⟨#[92, 120, hxb d1 u, hxb d2 u]⟩ 0 (show (0 : Nat) < 4 by decide) 92 rfl) (bytes_at w ⟨#[92, 120, hxb d1 u, hxb d2 u]⟩ 1 (show (1 : Nat) < 4 by decide) 120 rfl)
    (bytes_at w ⟨#[92, 120, hxb d1 u, hxb d2 u]⟩ 2 (show (2 : Nat) < 4 by decide) _ rfl) (bytes_at w ⟨#[92, 120, hxb d1 u, hxb d2 u]⟩ 3 (show (3 : Nat) < 4 by decide) _ rfl)
    (by rw [Lib.bytesWorld_size]; omega) hv

theorem unesc4_hex_bad (d1 d2 : Nat) (u : Bool) (hd1 : d1 < 16) (hd2 : d2 < 16) (hv : ¬ 16 * d1 + d2 ≤ 127) (w : World) :
    Calls Tryd.prog 4 #[.string ⟨#[92, 120, hxb d1 u, hxb d2 u]⟩, .bool false] w fun e w' => e = .returned (.tuple #[.string ⟨#[]⟩, .string ⟨#[]⟩, .bool false]) ∧ Below w.heap.size w w' := by
  refine unesc4_bad _ w (fun c h1 h2 => ?_) (show (4 : Nat) ≤ 1000 by decide)
  exact unq7_bad w.heap.size c d1 d2 _ _ u _ h1 h2 hd1 hd2 (hxb_nat d1 hd1 u).1 (hxb_nat d2 hd2 u).1 (hxb_nat d1 hd1 u).2 (hxb_nat d2 hd2 u).2
    (bytes_at w ⟨#[92, 120, hxb d1 u, hxb d2 u]⟩ 0 (show (0 : Nat) < 4 by decide) 92 rfl) (bytes_at w ⟨#[92, 120, hxb d1 u, hxb d2 u]⟩ 1 (show (1 : Nat) < 4 by decide) 120 rfl)
    (bytes_at w ⟨#[92, 120, hxb d1 u, hxb d2 u]⟩ 2 (show (2 : Nat) < 4 by decide) _ rfl) (bytes_at w ⟨#[92, 120, hxb d1 u, hxb d2 u]⟩ 3 (show (3 : Nat) < 4 by decide) _ rfl)
    (by rw [Lib.bytesWorld_size]; omega) hv

set_option maxHeartbeats 1000000 in
theorem reads6 (w : World) : Calls Tryd.prog 6 #[] w fun e w' => e = .returned (.bool true) ∧ Below w.heap.size w w' := by
  have U := unesc4_97
  go_enter Tryd.func6, Tryd.ntmps6
  go_wp2_with fail
  refine (U _).mono ?_
  rintro e w' ⟨rfl, hbl⟩
  have HBL := Lib.hid hbl
  clear hbl
  simp only []
  go_wp2_with fail
  go_ret
  exact ⟨rfl, HBL.out⟩
end Go.Proofs.YtkgcdjkenejojaaDoorR.Uh
