/-
  WALKS for FnUnescapeHex: the builder's WriteRune (10) at its first write, of a rune below 128.
-/
import Derived.Test.YtkgcdjkenejojaaDoorRUe
import Derived.Test.YtkgcdjkenejojaaDoorRShelf
namespace Go.Proofs.YtkgcdjkenejojaaDoorR.Uh
open Go.RowKit

set_option maxHeartbeats 4000000 in
set_option maxRecDepth 100000 in
theorem write10 (B b : Nat) (r : Int) (h0 : 0 ≤ r) (h1 : r ≤ 127) (w : World) (hB : B ≤ b) (hBw : B ≤ w.heap.size) (hb : w.heap[b]? = some (.cells #[.pointer none, .slice none 0 0] 35 (0, 0))) :
    Calls Tryd.prog 10 #[.pointer (some ⟨b, 0, none⟩), .int .i32 r] w fun e w' => e = .returned (.tuple #[.int .i64 1, .nilIface]) ∧ Lib.BuilderAtF 35 5 B b (.pointer (some ⟨b, 0, none⟩)) [.int .u8 r] w' ∧ Below B w w' := by
  have hlt0 : b < w.heap.size := by
    rcases Nat.lt_or_ge b w.heap.size with h' | h'
    · exact h'
    · simp [Array.getElem?_eq_none h'] at hb
  go_enter Tryd.func10, Tryd.ntmps10
  go_wp2_with fail
  refine (check15 b _ w hb).mono ?_
  rintro e w1 ⟨rfl, hw1⟩
  have hbk : w1.heap[b]? = some (.cells #[.pointer (some ⟨b, 0, none⟩), .slice none 0 0] 35 (0, 0)) := by
    rw [hw1]; simp [World.setCell, Array.getElem?_modify, hb]
  have hsz : w1.heap.size = w.heap.size := by rw [hw1]; simp [World.setCell]
  have hbl : Below B w w1 := by rw [hw1]; exact (Below.refl B w).setCell (p := ⟨b, 0, none⟩) hB _
  have HBL := Lib.hid hbl
  clear hbl
  clear hw1
  have c1 : w1.cell? ⟨b, 1, none⟩ = some (.slice none 0 0) := by rw [Lib.cell_of_heap hbk]; rfl
  have hown : w1.ownsRowF B 5 1 (.slice none 0 0) 0 [] := World.ownsRowF_nil _ _ _ _
  simp only []
  go_wp2_with fail
  refine (app16 B _ 0 [] r h0 h1 w1 hown (by omega) (by omega)).mono ?_
  rintro e w2 ⟨v', rfl, hown', o, hgrow⟩
  simp only []
  have hb2 : w2.heap[b]? = some (.cells #[.pointer (some ⟨b, 0, none⟩), .slice none 0 0] 35 (0, 0)) := by
    rw [hgrow.block b (by simp; omega) (by simp [Value.ownBlock]), Lib.alloc_old w1 _ b (by omega)]
    exact hbk
  have d1 : w2.cell? ⟨b, 1, none⟩ = some (.slice none 0 0) := by rw [Lib.cell_of_heap hb2]; rfl
  have f1 : w2.frozen? ⟨b, 1, none⟩ = false := Lib.frozen_of_heap hb2 1
  obtain ⟨g, cap', rfl⟩ : ∃ g cap', v' = .slice (some ⟨g, 0, none⟩) (0 + 1) cap' := by
    rcases hown'.2 with ⟨_, h0⟩ | ⟨g, cap', cur, fz, hv, _⟩
    · omega
    · exact ⟨g, cap', hv⟩
  go_wp2
  go_ret2
  refine ⟨by simp, ?_, ((HBL.out.alloc (by omega) _).grown hgrow (by simp; omega) (fun k hk => by simp [Value.ownBlock] at hk)).setCell (p := ⟨b, 1, none⟩) hB _⟩
  exact Lib.BuilderAtF.put (T := 35) (e := 5) hB hb2 (bs' := [.int .u8 r]) (by simpa using hown') (by decide)
end Go.Proofs.YtkgcdjkenejojaaDoorR.Uh
