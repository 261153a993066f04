import Derived.Test.YbulkbrzkRows
import Derived.Test.YbulkbrzkLose
import Derived.WalkKit
import Derived.ProofKit
import Derived.OpenShut
import Derived.ShutString
import Derived.Laws.StructEq
namespace Go.Proofs.Ybulkbrzk.Near
open Go.ChangeShapes Go.WideShapes Go.ChangeAt Go.RowKit

theorem eq47 (a b c d : Int) (w : World) : (binOp .eql 47 (.agg #[.int .u64 a, .int .u64 b, .int .u64 c, .int .u64 d]) (.agg #[.int .u64 a, .int .u64 b, .int .u64 c, .int .u64 d])).run Yba.prog w = .ok (.bool true) w := by
  have u3 := Yba.underlying24
  have hS : Yba.prog.underlying 47 = some (.struct (Yba.prog.fieldsOf 47)) := by kernel_rfl
  have hp : Yba.prog.stoodInHeld 47 = false := by kernel_rfl
  rw [run_eql_struct, show (10000 : Nat) = 9999 + 1 from rfl, run_equalIn_agg w 9999 47 _ _ hS hp]
  simp only [Program.fieldsOf, Yba.underlying47]
  go_simp
theorem eq51 (a b : Int) (w : World) : (binOp .eql 51 (.agg #[.int .u64 a, .int .u64 b]) (.agg #[.int .u64 a, .int .u64 b])).run Yba.prog w = .ok (.bool true) w := by
  have u3 := Yba.underlying24
  have hS : Yba.prog.underlying 51 = some (.struct (Yba.prog.fieldsOf 51)) := by kernel_rfl
  have hp : Yba.prog.stoodInHeld 51 = false := by kernel_rfl
  rw [run_eql_struct, show (10000 : Nat) = 9999 + 1 from rfl, run_equalIn_agg w 9999 51 _ _ hS hp]
  simp only [Program.fieldsOf, Yba.underlying51]
  go_simp
theorem g47 : Yba.prog.eqGuardType Yba.prog.depth 47 = false := by kernel_rfl
theorem g51 : Yba.prog.eqGuardType Yba.prog.depth 51 = false := by kernel_rfl


set_option maxRecDepth 100000 in
set_option maxHeartbeats 1000000 in
theorem walk_n2 (a0 a1 a2 a3 a4 : Int) (b2 : 0 ≤ a2 ∧ a2 ≤ 18446744073709551615) (b4 : 0 ≤ a4 ∧ a4 ≤ 255) (h : a4 % 5 = 0) (c : 2 ≤ a2) (w : World) :
    Calls Yba.prog 6 #[.int .u64 a0, .int .u64 a1, .int .u64 a2, .int .u64 a3, .int .u8 a4] w fun e w' => e = .returned (.bool true) ∧ Grown w w' := by
  have hg47 := g47
  have hg51 := g51
  have he47 := eq47
  have he51 := eq51
  go_enter Yba.func6, Yba.ntmps6
  go_wp2_with fail
  refine (Lose.lose_no _ _ _ _ _ _ (by omega)).mono ?_
  rintro e w' ⟨rfl, rfl⟩
  go_wp2_with fail
  refine (Lose.lose_no _ _ _ _ _ _ (by omega)).mono ?_
  rintro e w' ⟨rfl, rfl⟩
  go_wp2_with fail
  refine (Lose.lost_any _ _ _ _ _).mono ?_
  rintro e w' ⟨rfl, rfl⟩
  go_wp2_with fail
  go_ret
  exact ⟨rfl, by repeat (first | exact Grown.refl _ | apply Grown.drew | apply Grown.alloc)⟩

set_option maxRecDepth 100000 in
set_option maxHeartbeats 1000000 in
theorem walk_n2z (a0 a1 a2 a3 a4 : Int) (b4 : 0 ≤ a4 ∧ a4 ≤ 255) (h : a4 % 5 = 0) (c : a2 = 0) (w : World) :
    Calls Yba.prog 6 #[.int .u64 a0, .int .u64 a1, .int .u64 a2, .int .u64 a3, .int .u8 a4] w fun e w' => e = .returned (.bool true) ∧ Grown w w' := by
  have hg47 := g47
  have hg51 := g51
  have he47 := eq47
  have he51 := eq51
  subst c
  go_enter Yba.func6, Yba.ntmps6
  go_wp2_with fail
  refine (Lose.lose_yes _ _ _ _ _ _ (by omega)).mono ?_
  rintro e w' ⟨rfl, rfl⟩
  go_wp2_with fail
  refine (Lose.lose_yes _ _ _ _ _ _ (by omega)).mono ?_
  rintro e w' ⟨rfl, rfl⟩
  go_wp2_with fail
  refine (Lose.lost_any _ _ _ _ _).mono ?_
  rintro e w' ⟨rfl, rfl⟩
  go_wp2_with fail
  go_ret
  exact ⟨rfl, by repeat (first | exact Grown.refl _ | apply Grown.drew | apply Grown.alloc)⟩

set_option maxRecDepth 100000 in
set_option maxHeartbeats 1000000 in
theorem walk_n2o (a0 a1 a2 a3 a4 : Int) (b4 : 0 ≤ a4 ∧ a4 ≤ 255) (h : a4 % 5 = 0) (c : a2 = 1) (w : World) :
    Calls Yba.prog 6 #[.int .u64 a0, .int .u64 a1, .int .u64 a2, .int .u64 a3, .int .u8 a4] w fun e w' => e = .returned (.bool true) ∧ Grown w w' := by
  have hg47 := g47
  have hg51 := g51
  have he47 := eq47
  have he51 := eq51
  subst c
  go_enter Yba.func6, Yba.ntmps6
  go_wp2_with fail
  refine (Lose.lose_no _ _ _ _ _ _ (by omega)).mono ?_
  rintro e w' ⟨rfl, rfl⟩
  go_wp2_with fail
  refine (Lose.lose_no _ _ _ _ _ _ (by omega)).mono ?_
  rintro e w' ⟨rfl, rfl⟩
  go_wp2_with fail
  refine (Lose.lost_any _ _ _ _ _).mono ?_
  rintro e w' ⟨rfl, rfl⟩
  go_wp2_with fail
  go_ret
  exact ⟨rfl, by repeat (first | exact Grown.refl _ | apply Grown.drew | apply Grown.alloc)⟩

set_option maxRecDepth 100000 in
set_option maxHeartbeats 1000000 in
theorem walk_n1 (a0 a1 a2 a3 a4 : Int) (b2 : 0 ≤ a2 ∧ a2 ≤ 18446744073709551615) (b4 : 0 ≤ a4 ∧ a4 ≤ 255) (h : a4 % 5 = 1) (c : 1 ≤ a2) (w : World) :
    Calls Yba.prog 6 #[.int .u64 a0, .int .u64 a1, .int .u64 a2, .int .u64 a3, .int .u8 a4] w fun e w' => e = .returned (.bool true) ∧ Grown w w' := by
  have hg47 := g47
  have hg51 := g51
  have he47 := eq47
  have he51 := eq51
  go_enter Yba.func6, Yba.ntmps6
  go_wp2_with fail
  refine (Lose.lose_no _ _ _ _ _ _ (by omega)).mono ?_
  rintro e w' ⟨rfl, rfl⟩
  go_wp2_with fail
  refine (Lose.lose_no _ _ _ _ _ _ (by omega)).mono ?_
  rintro e w' ⟨rfl, rfl⟩
  go_wp2_with fail
  refine (Lose.lost_any _ _ _ _ _).mono ?_
  rintro e w' ⟨rfl, rfl⟩
  go_wp2_with fail
  go_ret
  exact ⟨rfl, by repeat (first | exact Grown.refl _ | apply Grown.drew | apply Grown.alloc)⟩

set_option maxRecDepth 100000 in
set_option maxHeartbeats 1000000 in
theorem walk_n1z (a0 a1 a2 a3 a4 : Int) (b4 : 0 ≤ a4 ∧ a4 ≤ 255) (h : a4 % 5 = 1) (c : a2 = 0) (w : World) :
    Calls Yba.prog 6 #[.int .u64 a0, .int .u64 a1, .int .u64 a2, .int .u64 a3, .int .u8 a4] w fun e w' => e = .returned (.bool true) ∧ Grown w w' := by
  have hg47 := g47
  have hg51 := g51
  have he47 := eq47
  have he51 := eq51
  subst c
  go_enter Yba.func6, Yba.ntmps6
  go_wp2_with fail
  refine (Lose.lose_yes _ _ _ _ _ _ (by omega)).mono ?_
  rintro e w' ⟨rfl, rfl⟩
  go_wp2_with fail
  refine (Lose.lose_yes _ _ _ _ _ _ (by omega)).mono ?_
  rintro e w' ⟨rfl, rfl⟩
  go_wp2_with fail
  refine (Lose.lost_any _ _ _ _ _).mono ?_
  rintro e w' ⟨rfl, rfl⟩
  go_wp2_with fail
  go_ret
  exact ⟨rfl, by repeat (first | exact Grown.refl _ | apply Grown.drew | apply Grown.alloc)⟩

set_option maxRecDepth 100000 in
set_option maxHeartbeats 1000000 in
theorem walk_z0 (a0 a1 a2 a3 a4 : Int) (b4 : 0 ≤ a4 ∧ a4 ≤ 255) (h : a4 % 5 = 2) (w : World) :
    Calls Yba.prog 6 #[.int .u64 a0, .int .u64 a1, .int .u64 a2, .int .u64 a3, .int .u8 a4] w fun e w' => e = .returned (.bool true) ∧ Grown w w' := by
  have hg47 := g47
  have hg51 := g51
  have he47 := eq47
  have he51 := eq51
  go_enter Yba.func6, Yba.ntmps6
  go_wp2_with fail
  refine (Lose.lose_yes _ _ _ _ _ _ (by omega)).mono ?_
  rintro e w' ⟨rfl, rfl⟩
  go_wp2_with fail
  refine (Lose.lose_yes _ _ _ _ _ _ (by omega)).mono ?_
  rintro e w' ⟨rfl, rfl⟩
  go_wp2_with fail
  refine (Lose.lost_any _ _ _ _ _).mono ?_
  rintro e w' ⟨rfl, rfl⟩
  go_wp2_with fail
  go_ret
  exact ⟨rfl, by repeat (first | exact Grown.refl _ | apply Grown.drew | apply Grown.alloc)⟩

set_option maxRecDepth 100000 in
set_option maxHeartbeats 1000000 in
theorem walk_p1 (a0 a1 a2 a3 a4 : Int) (b2 : 0 ≤ a2 ∧ a2 ≤ 18446744073709551615) (b4 : 0 ≤ a4 ∧ a4 ≤ 255) (h : a4 % 5 = 3) (c : a2 ≤ 18446744073709551614) (w : World) :
    Calls Yba.prog 6 #[.int .u64 a0, .int .u64 a1, .int .u64 a2, .int .u64 a3, .int .u8 a4] w fun e w' => e = .returned (.bool true) ∧ Grown w w' := by
  have hg47 := g47
  have hg51 := g51
  have he47 := eq47
  have he51 := eq51
  go_enter Yba.func6, Yba.ntmps6
  go_wp2_with fail
  refine (Lose.lose_yes _ _ _ _ _ _ (by omega)).mono ?_
  rintro e w' ⟨rfl, rfl⟩
  go_wp2_with fail
  refine (Lose.lose_yes _ _ _ _ _ _ (by omega)).mono ?_
  rintro e w' ⟨rfl, rfl⟩
  go_wp2_with fail
  refine (Lose.lost_any _ _ _ _ _).mono ?_
  rintro e w' ⟨rfl, rfl⟩
  go_wp2_with fail
  go_ret
  exact ⟨rfl, by repeat (first | exact Grown.refl _ | apply Grown.drew | apply Grown.alloc)⟩

set_option maxRecDepth 100000 in
set_option maxHeartbeats 1000000 in
theorem walk_p1m (a0 a1 a2 a3 a4 : Int) (b4 : 0 ≤ a4 ∧ a4 ≤ 255) (h : a4 % 5 = 3) (c : a2 = 18446744073709551615) (w : World) :
    Calls Yba.prog 6 #[.int .u64 a0, .int .u64 a1, .int .u64 a2, .int .u64 a3, .int .u8 a4] w fun e w' => e = .returned (.bool true) ∧ Grown w w' := by
  have hg47 := g47
  have hg51 := g51
  have he47 := eq47
  have he51 := eq51
  subst c
  go_enter Yba.func6, Yba.ntmps6
  go_wp2_with fail
  refine (Lose.lose_yes _ _ _ _ _ _ (by omega)).mono ?_
  rintro e w' ⟨rfl, rfl⟩
  go_wp2_with fail
  refine (Lose.lose_yes _ _ _ _ _ _ (by omega)).mono ?_
  rintro e w' ⟨rfl, rfl⟩
  go_wp2_with fail
  refine (Lose.lost_any _ _ _ _ _).mono ?_
  rintro e w' ⟨rfl, rfl⟩
  go_wp2_with fail
  go_ret
  exact ⟨rfl, by repeat (first | exact Grown.refl _ | apply Grown.drew | apply Grown.alloc)⟩

set_option maxRecDepth 100000 in
set_option maxHeartbeats 1000000 in
theorem walk_p2 (a0 a1 a2 a3 a4 : Int) (b2 : 0 ≤ a2 ∧ a2 ≤ 18446744073709551615) (b4 : 0 ≤ a4 ∧ a4 ≤ 255) (h : a4 % 5 = 4) (c : a2 ≤ 18446744073709551613) (w : World) :
    Calls Yba.prog 6 #[.int .u64 a0, .int .u64 a1, .int .u64 a2, .int .u64 a3, .int .u8 a4] w fun e w' => e = .returned (.bool true) ∧ Grown w w' := by
  have hg47 := g47
  have hg51 := g51
  have he47 := eq47
  have he51 := eq51
  go_enter Yba.func6, Yba.ntmps6
  go_wp2_with fail
  refine (Lose.lose_yes _ _ _ _ _ _ (by omega)).mono ?_
  rintro e w' ⟨rfl, rfl⟩
  go_wp2_with fail
  refine (Lose.lose_yes _ _ _ _ _ _ (by omega)).mono ?_
  rintro e w' ⟨rfl, rfl⟩
  go_wp2_with fail
  refine (Lose.lost_any _ _ _ _ _).mono ?_
  rintro e w' ⟨rfl, rfl⟩
  go_wp2_with fail
  go_ret
  exact ⟨rfl, by repeat (first | exact Grown.refl _ | apply Grown.drew | apply Grown.alloc)⟩

set_option maxRecDepth 100000 in
set_option maxHeartbeats 1000000 in
theorem walk_p2a (a0 a1 a2 a3 a4 : Int) (b4 : 0 ≤ a4 ∧ a4 ≤ 255) (h : a4 % 5 = 4) (c : a2 = 18446744073709551614) (w : World) :
    Calls Yba.prog 6 #[.int .u64 a0, .int .u64 a1, .int .u64 a2, .int .u64 a3, .int .u8 a4] w fun e w' => e = .returned (.bool true) ∧ Grown w w' := by
  have hg47 := g47
  have hg51 := g51
  have he47 := eq47
  have he51 := eq51
  subst c
  go_enter Yba.func6, Yba.ntmps6
  go_wp2_with fail
  refine (Lose.lose_yes _ _ _ _ _ _ (by omega)).mono ?_
  rintro e w' ⟨rfl, rfl⟩
  go_wp2_with fail
  refine (Lose.lose_yes _ _ _ _ _ _ (by omega)).mono ?_
  rintro e w' ⟨rfl, rfl⟩
  go_wp2_with fail
  refine (Lose.lost_any _ _ _ _ _).mono ?_
  rintro e w' ⟨rfl, rfl⟩
  go_wp2_with fail
  go_ret
  exact ⟨rfl, by repeat (first | exact Grown.refl _ | apply Grown.drew | apply Grown.alloc)⟩

set_option maxRecDepth 100000 in
set_option maxHeartbeats 1000000 in
theorem walk_p2b (a0 a1 a2 a3 a4 : Int) (b4 : 0 ≤ a4 ∧ a4 ≤ 255) (h : a4 % 5 = 4) (c : a2 = 18446744073709551615) (w : World) :
    Calls Yba.prog 6 #[.int .u64 a0, .int .u64 a1, .int .u64 a2, .int .u64 a3, .int .u8 a4] w fun e w' => e = .returned (.bool true) ∧ Grown w w' := by
  have hg47 := g47
  have hg51 := g51
  have he47 := eq47
  have he51 := eq51
  subst c
  go_enter Yba.func6, Yba.ntmps6
  go_wp2_with fail
  refine (Lose.lose_yes _ _ _ _ _ _ (by omega)).mono ?_
  rintro e w' ⟨rfl, rfl⟩
  go_wp2_with fail
  refine (Lose.lose_yes _ _ _ _ _ _ (by omega)).mono ?_
  rintro e w' ⟨rfl, rfl⟩
  go_wp2_with fail
  refine (Lose.lost_any _ _ _ _ _).mono ?_
  rintro e w' ⟨rfl, rfl⟩
  go_wp2_with fail
  go_ret
  exact ⟨rfl, by repeat (first | exact Grown.refl _ | apply Grown.drew | apply Grown.alloc)⟩

end Go.Proofs.Ybulkbrzk.Near
