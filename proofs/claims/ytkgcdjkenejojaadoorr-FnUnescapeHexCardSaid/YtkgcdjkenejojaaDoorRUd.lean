/-
  WALKS for FnUnescapeHex: the builder's copyCheck (15) at its first write.
-/
import Derived.Test.YtkgcdjkenejojaaDoorRUc
import Derived.OneCell
import Derived.Lib.Builder
import Derived.Laws.Externs
namespace Go.Proofs.YtkgcdjkenejojaaDoorR.Uh
open Go.RowKit

theorem size35 : (Tryd.prog.info? 35).map (·.size) = some 2 := by kernel_rfl
theorem lies35 : liesAt Tryd.prog Tryd.prog.depth 35 (2 / Tryd.prog.cellsOf 35) 0 35 1 = true := by kernel_rfl

set_option maxRecDepth 100000 in
set_option maxHeartbeats 1000000 in
theorem check15 (b : Nat) (v : Value) (w : World) (hb : w.heap[b]? = some (.cells #[.pointer none, v] 35 (0, 0))) :
    Calls Tryd.prog 15 #[.pointer (some ⟨b, 0, none⟩)] w fun e w' => e = .returned (.tuple #[]) ∧ w' = w.setCell ⟨b, 0, none⟩ (.pointer (some ⟨b, 0, none⟩)) := by
  obtain ⟨j, hj, hjs⟩ := Option.map_eq_some_iff.1 size35
  have c0 : w.cell? ⟨b, 0, none⟩ = some (.pointer none) := by rw [cell_of_row _ _ _ _ _ _ hb]; rfl
  have f0 : w.frozen? ⟨b, 0, none⟩ = false := by simp [World.frozen?, hb]
  have hsh : w.shape? b = some (35, 2) := by simp [World.shape?, hb]
  have HSH := Lib.hid hsh
  have HJ := Lib.hid hj
  have HJS := Lib.hid hjs
  clear hsh hb hj hjs
  go_enter Tryd.func15, Tryd.ntmps15
  go_wp2
  rw [Lib.run_to_unsafe w ⟨b, 0, none⟩ Tryd.underlying33 Tryd.underlying51 HJ.out (by rw [HJS.out]; decide) HSH.out (Nat.zero_lt_succ 1)]
  simp only [Result.andThen]
  rw [Oper.upon_value]
  go_wp2
  rw [run_callFunc_extern Tryd.func21 (by kernel_rfl) (by kernel_rfl) (by kernel_rfl) (e := Extern.AbiNoEscape.same) (by kernel_rfl)]
  rw [Lib.run_noEscape]
  simp only [Result.andThen]
  rw [Oper.upon_value]
  go_wp2
  rw [Lib.run_from_unsafe w ⟨b, 0, none⟩ Tryd.underlying51 Tryd.underlying33 HJ.out HSH.out lies35]
  simp only [Result.andThen]
  rw [Oper.upon_value]
  go_wp2
  go_end0
  exact ⟨rfl, rfl⟩
end Go.Proofs.YtkgcdjkenejojaaDoorR.Uh
