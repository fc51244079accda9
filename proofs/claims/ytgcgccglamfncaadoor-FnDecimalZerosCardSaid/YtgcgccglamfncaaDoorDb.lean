/-
  WALKS for FnDecimalParses: math.Pow10 (14) at 0 to 4. Printed by mkDb.py.
-/
import Derived.Test.YtgcgccglamfncaaDoorDa
import Derived.Test.YtgcgccglamfncaaDoorShelf
import Derived.KernelRfl
import Derived.BigRegion
namespace Go.Proofs.YtgcgccglamfncaaDoor.Dec
open Go.RowKit

/-- the float of ten to the power k, and the number -/
def pw (k : Nat) : Nat := match k with | 0 => 4607182418800017408 | 1 => 4621819117588971520 | 2 => 4636737291354636288 | 3 => 4652007308841189376 | _ => 4666723172467343360
def pn (k : Nat) : Nat := match k with | 0 => 1 | 1 => 10 | 2 => 100 | 3 => 1000 | _ => 10000

theorem mul_0 (w : World) : (binOp .mul 44 (.float .f64 4607182418800017408) (.float .f64 4607182418800017408)).run Tryd.prog w = .ok (.float .f64 4607182418800017408) w := by kernel_rfl
theorem cv_0 (w : World) : (convert 44 43 (.float .f64 4607182418800017408)).run Tryd.prog w = .ok (.int .i16 1) w := by kernel_rfl
theorem pow14_0 (w : World) (c2 : w.cell? ⟨2, 0, none⟩ = some (.float .f64 4607182418800017408)) (c3 : w.cell? ⟨3, 0, none⟩ = some (.float .f64 4607182418800017408)) :
    Calls Tryd.prog 14 #[.int .i64 0] w fun e w' => e = .returned (.float .f64 4607182418800017408) ∧ w' = w.drew := by
  have MU := mul_0
  go_enter Tryd.func14, Tryd.ntmps14
  go_wp2_with fail
  go_region
  all_goals
    go_wp2_with fail
    go_ret
    exact ⟨rfl, rfl⟩
theorem mul_1 (w : World) : (binOp .mul 44 (.float .f64 4607182418800017408) (.float .f64 4621819117588971520)).run Tryd.prog w = .ok (.float .f64 4621819117588971520) w := by kernel_rfl
theorem cv_1 (w : World) : (convert 44 43 (.float .f64 4621819117588971520)).run Tryd.prog w = .ok (.int .i16 10) w := by kernel_rfl
theorem pow14_1 (w : World) (c2 : w.cell? ⟨2, 0, none⟩ = some (.float .f64 4607182418800017408)) (c3 : w.cell? ⟨3, 1, none⟩ = some (.float .f64 4621819117588971520)) :
    Calls Tryd.prog 14 #[.int .i64 1] w fun e w' => e = .returned (.float .f64 4621819117588971520) ∧ w' = w.drew := by
  have MU := mul_1
  go_enter Tryd.func14, Tryd.ntmps14
  go_wp2_with fail
  go_region
  all_goals
    go_wp2_with fail
    go_ret
    exact ⟨rfl, rfl⟩
theorem mul_2 (w : World) : (binOp .mul 44 (.float .f64 4607182418800017408) (.float .f64 4636737291354636288)).run Tryd.prog w = .ok (.float .f64 4636737291354636288) w := by kernel_rfl
theorem cv_2 (w : World) : (convert 44 43 (.float .f64 4636737291354636288)).run Tryd.prog w = .ok (.int .i16 100) w := by kernel_rfl
theorem pow14_2 (w : World) (c2 : w.cell? ⟨2, 0, none⟩ = some (.float .f64 4607182418800017408)) (c3 : w.cell? ⟨3, 2, none⟩ = some (.float .f64 4636737291354636288)) :
    Calls Tryd.prog 14 #[.int .i64 2] w fun e w' => e = .returned (.float .f64 4636737291354636288) ∧ w' = w.drew := by
  have MU := mul_2
  go_enter Tryd.func14, Tryd.ntmps14
  go_wp2_with fail
  go_region
  all_goals
    go_wp2_with fail
    go_ret
    exact ⟨rfl, rfl⟩
theorem mul_3 (w : World) : (binOp .mul 44 (.float .f64 4607182418800017408) (.float .f64 4652007308841189376)).run Tryd.prog w = .ok (.float .f64 4652007308841189376) w := by kernel_rfl
theorem cv_3 (w : World) : (convert 44 43 (.float .f64 4652007308841189376)).run Tryd.prog w = .ok (.int .i16 1000) w := by kernel_rfl
theorem pow14_3 (w : World) (c2 : w.cell? ⟨2, 0, none⟩ = some (.float .f64 4607182418800017408)) (c3 : w.cell? ⟨3, 3, none⟩ = some (.float .f64 4652007308841189376)) :
    Calls Tryd.prog 14 #[.int .i64 3] w fun e w' => e = .returned (.float .f64 4652007308841189376) ∧ w' = w.drew := by
  have MU := mul_3
  go_enter Tryd.func14, Tryd.ntmps14
  go_wp2_with fail
  go_region
  all_goals
    go_wp2_with fail
    go_ret
    exact ⟨rfl, rfl⟩
theorem mul_4 (w : World) : (binOp .mul 44 (.float .f64 4607182418800017408) (.float .f64 4666723172467343360)).run Tryd.prog w = .ok (.float .f64 4666723172467343360) w := by kernel_rfl
theorem cv_4 (w : World) : (convert 44 43 (.float .f64 4666723172467343360)).run Tryd.prog w = .ok (.int .i16 10000) w := by kernel_rfl
theorem pow14_4 (w : World) (c2 : w.cell? ⟨2, 0, none⟩ = some (.float .f64 4607182418800017408)) (c3 : w.cell? ⟨3, 4, none⟩ = some (.float .f64 4666723172467343360)) :
    Calls Tryd.prog 14 #[.int .i64 4] w fun e w' => e = .returned (.float .f64 4666723172467343360) ∧ w' = w.drew := by
  have MU := mul_4
  go_enter Tryd.func14, Tryd.ntmps14
  go_wp2_with fail
  go_region
  all_goals
    go_wp2_with fail
    go_ret
    exact ⟨rfl, rfl⟩

/-- the tables of powers of ten -/
def Tabs (w : World) : Prop := w.cell? ⟨2, 0, none⟩ = some (.float .f64 4607182418800017408) ∧ ∀ k, k ≤ 4 → w.cell? ⟨3, k, none⟩ = some (.float .f64 (pw k))
theorem pow14 (k : Nat) (hk : k ≤ 4) (w : World) (T : Tabs w) : Calls Tryd.prog 14 #[.int .i64 k] w fun e w' => e = .returned (.float .f64 (pw k)) ∧ w' = w.drew := by
  match k, hk with
  | 0, _ => exact pow14_0 w T.1 (T.2 0 (by omega))
  | 1, _ => exact pow14_1 w T.1 (T.2 1 (by omega))
  | 2, _ => exact pow14_2 w T.1 (T.2 2 (by omega))
  | 3, _ => exact pow14_3 w T.1 (T.2 3 (by omega))
  | 4, _ => exact pow14_4 w T.1 (T.2 4 (by omega))
theorem cv (k : Nat) (hk : k ≤ 4) (w : World) : (convert 44 43 (.float .f64 (pw k))).run Tryd.prog w = .ok (.int .i16 (pn k : Nat)) w := by
  match k, hk with
  | 0, _ => exact cv_0 w
  | 1, _ => exact cv_1 w
  | 2, _ => exact cv_2 w
  | 3, _ => exact cv_3 w
  | 4, _ => exact cv_4 w
end Go.Proofs.YtgcgccglamfncaaDoor.Dec
