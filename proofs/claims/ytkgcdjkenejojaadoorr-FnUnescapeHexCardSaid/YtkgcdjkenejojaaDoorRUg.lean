/-
  WALKS for FnUnescapeHex: Unquote (7) at one byte, and at a backslash, x and two hexadecimal digits.
-/
import Derived.Test.YtkgcdjkenejojaaDoorRUf
import Derived.Deep.RegionWith
import Derived.OwnWalk
namespace Go.Proofs.YtkgcdjkenejojaaDoorR.Uh
open Go.RowKit

theorem new35 (w : World) : (w.alloc (.cells #[.pointer none, .slice none 0 0] 35)).heap[w.heap.size]? = some (.cells #[.pointer none, .slice none 0 0] 35 (0, 0)) := heap_alloc_new w _

/-- the string of a builder that holds one byte below 128 -/
theorem str9 (b : Nat) (r : Nat) (hr : r < 128) (w : World) (h : Lib.BuilderAtF 35 5 b b (.pointer (some ⟨b, 0, none⟩)) [.int .u8 (r : Int)] w) :
    Calls Tryd.prog 9 #[.pointer (some ⟨b, 0, none⟩)] w fun e w' => e = .returned (.string ⟨#[UInt8.ofNat r]⟩) ∧ Below b w w' := by
  refine (Tryd.Builder_String_any_f b b [UInt8.ofNat r] w (.inr ?_) (Nat.le_of_lt h.lt)).mono ?_
  · have e : Lib.byteCells [UInt8.ofNat r] = [Value.int .u8 (r : Int)] := by
      have : r % 256 = r := Nat.mod_eq_of_lt (by omega)
      simp [Lib.byteCells, this]
    rw [e]; exact h
  · rintro e w' ⟨rfl, _, hbl⟩
    exact ⟨rfl, hbl⟩

set_option maxRecDepth 100000 in
set_option maxHeartbeats 2000000 in
theorem unq7_one (b c : Nat) (w : World) (hc : 1 ≤ c) (hbig : c ≤ 9223372036854775807) (c0 : w.cell? ⟨b, 0, none⟩ = some (.int .u8 97)) (hb : b < w.heap.size) :
    Calls Tryd.prog 7 #[.slice (some ⟨b, 0, none⟩) 1 c, .bool false] w fun e w' => (∃ a c', e = .returned (.tuple #[.string ⟨#[97]⟩, .slice a 0 c', .nilIface])) ∧ Below w.heap.size w w' := by
  have hA := new35 w
  have cA : (w.alloc (.cells #[.pointer none, .slice none 0 0] 35)).cell? ⟨b, 0, none⟩ = some (.int .u8 97) := by
    rw [← c0]; simp only [World.cell?]; rw [heap_alloc_old w _ hb]
  have HA := Lib.hid hA
  have CA := Lib.hid cA
  clear hA cA c0
  have hc1 : (1 : Int) ≤ (c : Int) := by omega
  have hc2 : ¬ (c : Int) < 1 := by omega
  go_enter Tryd.func7, Tryd.ntmps7
  go_wp2_with fail
  refine wp_loop_rounds 2 ?_
  rw [rounds_succ]
  go_wp2_with fail
  refine (next8 b 1 c 0 97 _ (by omega) hc (by omega) hbig CA.out).mono ?_
  rintro e w' ⟨rfl, rfl⟩
  simp only []
  go_wp2_with fail
  have HBW : w.heap.size ≤ (w.alloc (.cells #[.pointer none, .slice none 0 0] 35)).heap.size := by simp
  refine (write10 w.heap.size w.heap.size 97 (by omega) (by omega) _ (Nat.le_refl _) HBW HA.out).mono ?_
  rintro e w2 ⟨rfl, hw2, hbl⟩
  have HW := Lib.hid hw2
  have HBL := Lib.hid ((((Below.refl w.heap.size w).alloc (Nat.le_refl _) _).trans hbl).drew)
  clear hw2 hbl
  simp only []
  go_wp2_with fail
  rw [rounds_succ]
  go_wp2_with fail
  by_cases hcc : c = 1
  · subst hcc
    go_region_with (go_at_call 9; refine (str9 w.heap.size 97 (by omega) _ (Lib.BuilderAtF.drew HW.out)).mono ?_; rintro e w3 ⟨rfl, hbl⟩)
    all_goals
      have HB3 := Lib.hid hbl
      clear hbl
      go_wp2_with fail
      go_ret3
      exact ⟨⟨_, _, rfl⟩, HBL.out.trans HB3.out⟩
  · go_region_with (go_at_call 9; refine (str9 w.heap.size 97 (by omega) _ (Lib.BuilderAtF.drew HW.out)).mono ?_; rintro e w3 ⟨rfl, hbl⟩)
    all_goals
      have HB3 := Lib.hid hbl
      clear hbl
      go_wp2_with fail
      go_ret3
      exact ⟨⟨_, _, rfl⟩, HBL.out.trans HB3.out⟩
end Go.Proofs.YtkgcdjkenejojaaDoorR.Uh
