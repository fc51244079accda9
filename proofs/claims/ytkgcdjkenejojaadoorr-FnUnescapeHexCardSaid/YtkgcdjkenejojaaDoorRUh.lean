/-
  WALKS for FnUnescapeHex: Unquote (7) at a backslash, x and two hexadecimal digits.
-/
import Derived.Test.YtkgcdjkenejojaaDoorRUg
namespace Go.Proofs.YtkgcdjkenejojaaDoorR.Uh
open Go.RowKit

theorem old35 (w : World) (o : Obj) (b i : Nat) (v : Value) (hb : b < w.heap.size) (h : w.cell? ⟨b, i, none⟩ = some v) : (w.alloc o).cell? ⟨b, i, none⟩ = some v := by
  rw [← h]; simp only [World.cell?]; rw [heap_alloc_old w _ hb]

set_option maxRecDepth 100000 in
set_option maxHeartbeats 4000000 in
theorem unq7_ok (b c d1 d2 : Nat) (r1 r2 : Nat) (u : Bool) (w : World) (hc : 4 ≤ c) (hbig : c ≤ 9223372036854775807) (hd1 : d1 < 16) (hd2 : d2 < 16) (e1 : (r1 : Int) = hx d1 u) (e2 : (r2 : Int) = hx d2 u) (hr1 : r1 < 128) (hr2 : r2 < 128)
    (c0 : w.cell? ⟨b, 0, none⟩ = some (.int .u8 92)) (c1 : w.cell? ⟨b, 1, none⟩ = some (.int .u8 120)) (c2 : w.cell? ⟨b, 2, none⟩ = some (.int .u8 r1)) (c3 : w.cell? ⟨b, 3, none⟩ = some (.int .u8 r2))
    (hb : b < w.heap.size) (hv : 16 * d1 + d2 ≤ 127) :
    Calls Tryd.prog 7 #[.slice (some ⟨b, 0, none⟩) 4 c, .bool false] w fun e w' => (∃ a c', e = .returned (.tuple #[.string ⟨#[UInt8.ofNat (16 * d1 + d2)]⟩, .slice a 0 c', .nilIface])) ∧ Below w.heap.size w w' := by
  have HA := Lib.hid (new35 w)
  have C0 := Lib.hid (old35 w (.cells #[.pointer none, .slice none 0 0] 35) b 0 _ hb c0)
  have C1 := Lib.hid (old35 w (.cells #[.pointer none, .slice none 0 0] 35) b 1 _ hb c1)
  have C2 := Lib.hid (old35 w (.cells #[.pointer none, .slice none 0 0] 35) b 2 _ hb c2)
  have C3 := Lib.hid (old35 w (.cells #[.pointer none, .slice none 0 0] 35) b 3 _ hb c3)
  clear c0 c1 c2 c3
  have P := parse11_ok b 4 c 2 d1 d2 r1 r2 u (w.alloc (.cells #[.pointer none, .slice none 0 0] 35)) (by omega) hc hbig hd1 hd2 e1 e2 hr1 hr2 C2.out C3.out hv
  have hc1 : (4 : Int) ≤ (c : Int) := by omega
  have hc2 : ¬ (c : Int) < 4 := by omega
  obtain ⟨v, hvd⟩ : ∃ v, v = 16 * d1 + d2 := ⟨_, rfl⟩
  rw [← hvd] at P hv ⊢
  have hv0 : 0 ≤ (v : Int) := by omega
  have hv1 : (v : Int) ≤ 127 := by omega
  clear hvd e1 e2 hr1 hr2 hd1 hd2 C2 C3
  go_enter Tryd.func7, Tryd.ntmps7
  go_wp2_with fail
  refine wp_loop_rounds 2 ?_
  rw [rounds_succ]
  go_wp2_with fail
  refine (next8 b 4 c 0 92 _ (by omega) hc (by omega) hbig C0.out).mono ?_
  rintro e w' ⟨rfl, rfl⟩
  simp only []
  go_wp2_with fail
  refine (next8 b 4 c 1 120 _ (by omega) hc (by omega) hbig C1.out).mono ?_
  rintro e w' ⟨rfl, rfl⟩
  simp only []
  go_wp2_with fail
  refine P.mono ?_
  rintro e w' ⟨rfl, rfl⟩
  simp only []
  go_wp2_with fail
  have HBW : w.heap.size ≤ (w.alloc (.cells #[.pointer none, .slice none 0 0] 35)).heap.size := by simp
  refine (write10 w.heap.size w.heap.size v hv0 hv1 _ (Nat.le_refl _) HBW HA.out).mono ?_
  rintro e w2 ⟨rfl, hw2, hbl⟩
  have HW := Lib.hid hw2
  have HBL := Lib.hid ((((Below.refl w.heap.size w).alloc (Nat.le_refl _) _).trans hbl).drew)
  clear hw2 hbl
  simp only []
  go_wp2_with fail
  rw [rounds_succ]
  go_wp2_with fail
  have hv' : v < 128 := by omega
  by_cases hcc : c = 4
  · subst hcc
    go_region_with (go_at_call 9; refine (str9 w.heap.size v hv' _ (Lib.BuilderAtF.drew HW.out)).mono ?_; rintro e w3 ⟨rfl, hbl⟩)
    all_goals
      have HB3 := Lib.hid hbl
      clear hbl
      go_wp2_with fail
      go_ret3
      exact ⟨⟨_, _, rfl⟩, HBL.out.trans HB3.out⟩
  · have hcd : ¬ c - 4 = 0 := by omega
    go_region_with (go_at_call 9; refine (str9 w.heap.size v hv' _ (Lib.BuilderAtF.drew HW.out)).mono ?_; rintro e w3 ⟨rfl, hbl⟩)
    all_goals
      have HB3 := Lib.hid hbl
      clear hbl
      go_wp2_with fail
      go_ret3
      exact ⟨⟨_, _, rfl⟩, HBL.out.trans HB3.out⟩

set_option maxRecDepth 100000 in
set_option maxHeartbeats 4000000 in
theorem unq7_bad (b c d1 d2 : Nat) (r1 r2 : Nat) (u : Bool) (w : World) (hc : 4 ≤ c) (hbig : c ≤ 9223372036854775807) (hd1 : d1 < 16) (hd2 : d2 < 16) (e1 : (r1 : Int) = hx d1 u) (e2 : (r2 : Int) = hx d2 u) (hr1 : r1 < 128) (hr2 : r2 < 128)
    (c0 : w.cell? ⟨b, 0, none⟩ = some (.int .u8 92)) (c1 : w.cell? ⟨b, 1, none⟩ = some (.int .u8 120)) (c2 : w.cell? ⟨b, 2, none⟩ = some (.int .u8 r1)) (c3 : w.cell? ⟨b, 3, none⟩ = some (.int .u8 r2))
    (hb : b < w.heap.size) (hv : ¬ 16 * d1 + d2 ≤ 127) :
    Calls Tryd.prog 7 #[.slice (some ⟨b, 0, none⟩) 4 c, .bool false] w fun e w' => (∃ T x, e = .returned (.tuple #[.string ⟨#[]⟩, .slice none 0 0, .iface T x])) ∧ Below w.heap.size w w' := by
  have C0 := Lib.hid (old35 w (.cells #[.pointer none, .slice none 0 0] 35) b 0 _ hb c0)
  have C1 := Lib.hid (old35 w (.cells #[.pointer none, .slice none 0 0] 35) b 1 _ hb c1)
  have C2 := Lib.hid (old35 w (.cells #[.pointer none, .slice none 0 0] 35) b 2 _ hb c2)
  have C3 := Lib.hid (old35 w (.cells #[.pointer none, .slice none 0 0] 35) b 3 _ hb c3)
  clear c0 c1 c2 c3
  have P := parse11_bad b 4 c 2 d1 d2 r1 r2 u (w.alloc (.cells #[.pointer none, .slice none 0 0] 35)) (by omega) hc hbig hd1 hd2 e1 e2 hr1 hr2 C2.out C3.out hv
  clear hv e1 e2 hr1 hr2 hd1 hd2 C2 C3
  go_enter Tryd.func7, Tryd.ntmps7
  go_wp2_with fail
  refine wp_loop_rounds 2 ?_
  rw [rounds_succ]
  go_wp2_with fail
  refine (next8 b 4 c 0 92 _ (by omega) hc (by omega) hbig C0.out).mono ?_
  rintro e w' ⟨rfl, rfl⟩
  simp only []
  go_wp2_with fail
  refine (next8 b 4 c 1 120 _ (by omega) hc (by omega) hbig C1.out).mono ?_
  rintro e w' ⟨rfl, rfl⟩
  simp only []
  go_wp2_with fail
  refine P.mono ?_
  rintro e w' ⟨⟨T, x, rfl⟩, hbl⟩
  have HBL := Lib.hid (((Below.refl w.heap.size w).alloc (Nat.le_refl _) _).trans (hbl.mono (by simp)))
  clear hbl
  simp only []
  go_wp2_with fail
  go_ret3
  exact ⟨⟨_, _, rfl⟩, HBL.out⟩
end Go.Proofs.YtkgcdjkenejojaaDoorR.Uh
