/-
  WALKS for FnUnescapeHex: the small functions on a hexadecimal letter. Printed in part by program.
-/
import Derived.Test.YtkgcdjkenejojaaDoorRProg
import Derived.WalkKit
import Derived.WalkSpells
import Derived.Lib.Hide
namespace Go.Proofs.YtkgcdjkenejojaaDoorR.Uh
open Go.RowKit

/-- the letter of a hexadecimal digit (u: a capital) -/
def hx (d : Nat) (u : Bool) : Int := if d < 10 then 48 + d else if u then 55 + d else 87 + d

theorem isHex17_d (d : Nat) (hd : d < 10) (w : World) : Calls Tryd.prog 17 #[.int .i32 (48 + (d : Int))] w fun e w' => e = .returned (.bool true) ∧ w' = w := by
  have h1 : (48 : Int) ≤ 48 + (d : Int) := by omega
  have h2 : 48 + (d : Int) ≤ 57 := by omega
  go_enter Tryd.func17, Tryd.ntmps17
  go_wp2
  go_ret
  exact ⟨rfl, rfl⟩
theorem isHex17_65 (w : World) : Calls Tryd.prog 17 #[.int .i32 65] w fun e w' => e = .returned (.bool true) ∧ w' = w := by
  go_enter Tryd.func17, Tryd.ntmps17
  go_wp2
  go_ret
  exact ⟨rfl, rfl⟩
theorem isHex17_66 (w : World) : Calls Tryd.prog 17 #[.int .i32 66] w fun e w' => e = .returned (.bool true) ∧ w' = w := by
  go_enter Tryd.func17, Tryd.ntmps17
  go_wp2
  go_ret
  exact ⟨rfl, rfl⟩
theorem isHex17_67 (w : World) : Calls Tryd.prog 17 #[.int .i32 67] w fun e w' => e = .returned (.bool true) ∧ w' = w := by
  go_enter Tryd.func17, Tryd.ntmps17
  go_wp2
  go_ret
  exact ⟨rfl, rfl⟩
theorem isHex17_68 (w : World) : Calls Tryd.prog 17 #[.int .i32 68] w fun e w' => e = .returned (.bool true) ∧ w' = w := by
  go_enter Tryd.func17, Tryd.ntmps17
  go_wp2
  go_ret
  exact ⟨rfl, rfl⟩
theorem isHex17_69 (w : World) : Calls Tryd.prog 17 #[.int .i32 69] w fun e w' => e = .returned (.bool true) ∧ w' = w := by
  go_enter Tryd.func17, Tryd.ntmps17
  go_wp2
  go_ret
  exact ⟨rfl, rfl⟩
theorem isHex17_70 (w : World) : Calls Tryd.prog 17 #[.int .i32 70] w fun e w' => e = .returned (.bool true) ∧ w' = w := by
  go_enter Tryd.func17, Tryd.ntmps17
  go_wp2
  go_ret
  exact ⟨rfl, rfl⟩
theorem isHex17_97 (w : World) : Calls Tryd.prog 17 #[.int .i32 97] w fun e w' => e = .returned (.bool true) ∧ w' = w := by
  go_enter Tryd.func17, Tryd.ntmps17
  go_wp2
  go_ret
  exact ⟨rfl, rfl⟩
theorem isHex17_98 (w : World) : Calls Tryd.prog 17 #[.int .i32 98] w fun e w' => e = .returned (.bool true) ∧ w' = w := by
  go_enter Tryd.func17, Tryd.ntmps17
  go_wp2
  go_ret
  exact ⟨rfl, rfl⟩
theorem isHex17_99 (w : World) : Calls Tryd.prog 17 #[.int .i32 99] w fun e w' => e = .returned (.bool true) ∧ w' = w := by
  go_enter Tryd.func17, Tryd.ntmps17
  go_wp2
  go_ret
  exact ⟨rfl, rfl⟩
theorem isHex17_100 (w : World) : Calls Tryd.prog 17 #[.int .i32 100] w fun e w' => e = .returned (.bool true) ∧ w' = w := by
  go_enter Tryd.func17, Tryd.ntmps17
  go_wp2
  go_ret
  exact ⟨rfl, rfl⟩
theorem isHex17_101 (w : World) : Calls Tryd.prog 17 #[.int .i32 101] w fun e w' => e = .returned (.bool true) ∧ w' = w := by
  go_enter Tryd.func17, Tryd.ntmps17
  go_wp2
  go_ret
  exact ⟨rfl, rfl⟩
theorem isHex17_102 (w : World) : Calls Tryd.prog 17 #[.int .i32 102] w fun e w' => e = .returned (.bool true) ∧ w' = w := by
  go_enter Tryd.func17, Tryd.ntmps17
  go_wp2
  go_ret
  exact ⟨rfl, rfl⟩
theorem isHex17 (d : Nat) (u : Bool) (hd : d < 16) (w : World) : Calls Tryd.prog 17 #[.int .i32 (hx d u)] w fun e w' => e = .returned (.bool true) ∧ w' = w := by
  by_cases h : d < 10
  · rw [hx, if_pos h]
    exact isHex17_d d h w
  · match d, u, hd, h with
    | 10, true, _, _ => exact isHex17_65 w
    | 10, false, _, _ => exact isHex17_97 w
    | 11, true, _, _ => exact isHex17_66 w
    | 11, false, _, _ => exact isHex17_98 w
    | 12, true, _, _ => exact isHex17_67 w
    | 12, false, _, _ => exact isHex17_99 w
    | 13, true, _, _ => exact isHex17_68 w
    | 13, false, _, _ => exact isHex17_100 w
    | 14, true, _, _ => exact isHex17_69 w
    | 14, false, _, _ => exact isHex17_101 w
    | 15, true, _, _ => exact isHex17_70 w
    | 15, false, _, _ => exact isHex17_102 w
    | n + 16, _, hh, _ => exact absurd hh (by omega)

theorem dig18_d (d : Nat) (hd : d < 10) (w : World) : Calls Tryd.prog 18 #[.int .i32 (48 + (d : Int))] w fun e w' => e = .returned (.int .i64 d) ∧ w' = w := by
  have h1 : (48 : Int) ≤ 48 + (d : Int) := by omega
  have h2 : 48 + (d : Int) ≤ 57 := by omega
  go_enter Tryd.func18, Tryd.ntmps18
  go_wp2
  go_ret
  exact ⟨by first | rfl | exact congrArg (fun n : Int => Ending.returned (.int .i64 n)) (show 48 + (d : Int) - 48 = d by omega) | exact congrArg (fun n : Int => Ending.returned (.int .i64 n)) (show -48 + (48 + (d : Int)) = d by omega), rfl⟩
theorem dig18_65 (w : World) : Calls Tryd.prog 18 #[.int .i32 65] w fun e w' => e = .returned (.int .i64 10) ∧ w' = w := by
  go_enter Tryd.func18, Tryd.ntmps18
  go_wp2
  go_ret
  exact ⟨rfl, rfl⟩
theorem dig18_66 (w : World) : Calls Tryd.prog 18 #[.int .i32 66] w fun e w' => e = .returned (.int .i64 11) ∧ w' = w := by
  go_enter Tryd.func18, Tryd.ntmps18
  go_wp2
  go_ret
  exact ⟨rfl, rfl⟩
theorem dig18_67 (w : World) : Calls Tryd.prog 18 #[.int .i32 67] w fun e w' => e = .returned (.int .i64 12) ∧ w' = w := by
  go_enter Tryd.func18, Tryd.ntmps18
  go_wp2
  go_ret
  exact ⟨rfl, rfl⟩
theorem dig18_68 (w : World) : Calls Tryd.prog 18 #[.int .i32 68] w fun e w' => e = .returned (.int .i64 13) ∧ w' = w := by
  go_enter Tryd.func18, Tryd.ntmps18
  go_wp2
  go_ret
  exact ⟨rfl, rfl⟩
theorem dig18_69 (w : World) : Calls Tryd.prog 18 #[.int .i32 69] w fun e w' => e = .returned (.int .i64 14) ∧ w' = w := by
  go_enter Tryd.func18, Tryd.ntmps18
  go_wp2
  go_ret
  exact ⟨rfl, rfl⟩
theorem dig18_70 (w : World) : Calls Tryd.prog 18 #[.int .i32 70] w fun e w' => e = .returned (.int .i64 15) ∧ w' = w := by
  go_enter Tryd.func18, Tryd.ntmps18
  go_wp2
  go_ret
  exact ⟨rfl, rfl⟩
theorem dig18_97 (w : World) : Calls Tryd.prog 18 #[.int .i32 97] w fun e w' => e = .returned (.int .i64 10) ∧ w' = w := by
  go_enter Tryd.func18, Tryd.ntmps18
  go_wp2
  go_ret
  exact ⟨rfl, rfl⟩
theorem dig18_98 (w : World) : Calls Tryd.prog 18 #[.int .i32 98] w fun e w' => e = .returned (.int .i64 11) ∧ w' = w := by
  go_enter Tryd.func18, Tryd.ntmps18
  go_wp2
  go_ret
  exact ⟨rfl, rfl⟩
theorem dig18_99 (w : World) : Calls Tryd.prog 18 #[.int .i32 99] w fun e w' => e = .returned (.int .i64 12) ∧ w' = w := by
  go_enter Tryd.func18, Tryd.ntmps18
  go_wp2
  go_ret
  exact ⟨rfl, rfl⟩
theorem dig18_100 (w : World) : Calls Tryd.prog 18 #[.int .i32 100] w fun e w' => e = .returned (.int .i64 13) ∧ w' = w := by
  go_enter Tryd.func18, Tryd.ntmps18
  go_wp2
  go_ret
  exact ⟨rfl, rfl⟩
theorem dig18_101 (w : World) : Calls Tryd.prog 18 #[.int .i32 101] w fun e w' => e = .returned (.int .i64 14) ∧ w' = w := by
  go_enter Tryd.func18, Tryd.ntmps18
  go_wp2
  go_ret
  exact ⟨rfl, rfl⟩
theorem dig18_102 (w : World) : Calls Tryd.prog 18 #[.int .i32 102] w fun e w' => e = .returned (.int .i64 15) ∧ w' = w := by
  go_enter Tryd.func18, Tryd.ntmps18
  go_wp2
  go_ret
  exact ⟨rfl, rfl⟩
theorem dig18 (d : Nat) (u : Bool) (hd : d < 16) (w : World) : Calls Tryd.prog 18 #[.int .i32 (hx d u)] w fun e w' => e = .returned (.int .i64 d) ∧ w' = w := by
  by_cases h : d < 10
  · rw [hx, if_pos h]
    exact dig18_d d h w
  · match d, u, hd, h with
    | 10, true, _, _ => exact dig18_65 w
    | 10, false, _, _ => exact dig18_97 w
    | 11, true, _, _ => exact dig18_66 w
    | 11, false, _, _ => exact dig18_98 w
    | 12, true, _, _ => exact dig18_67 w
    | 12, false, _, _ => exact dig18_99 w
    | 13, true, _, _ => exact dig18_68 w
    | 13, false, _, _ => exact dig18_100 w
    | 14, true, _, _ => exact dig18_69 w
    | 14, false, _, _ => exact dig18_101 w
    | 15, true, _, _ => exact dig18_70 w
    | 15, false, _, _ => exact dig18_102 w
    | n + 16, _, hh, _ => exact absurd hh (by omega)
end Go.Proofs.YtkgcdjkenejojaaDoorR.Uh
