/-
  strings.Compare and the order of the keys.
-/
import Derived.Test.YbulkbrzkSearch
import Derived.Lib.Bytealg
namespace Go.Proofs.Ybulkbrzk.BT
open Go Go.RowKit
set_option linter.unusedVariables false

set_option maxHeartbeats 1000000 in
set_option maxRecDepth 100000 in
theorem compare29 (a b : ByteArray) (w : World) :
    Calls Yba.prog 29 #[.string a, .string b] w fun e w' => e = .returned (.int .i64 (Lib.compareBytes a.data.toList b.data.toList)) ∧ w' = w := by
  go_enter Yba.func29, Yba.ntmps29
  go_wp2
  rw [run_callFunc_extern Yba.func51 (by kernel_rfl) (by kernel_rfl) (by kernel_rfl) (e := Extern.BytealgCompare.compare) (by kernel_rfl), Lib.run_compareString]
  simp only [Result.andThen]
  rw [Oper.upon_value]
  go_wp2
  go_ret
  exact ⟨rfl, rfl⟩

set_option maxHeartbeats 1000000 in
set_option maxRecDepth 100000 in
theorem compare_in (a b : ByteArray) (w : World) :
    Calls Yba.prog 11 #[.string a, .string b] w fun e w' => e = .returned (.int .i64 (Lib.compareBytes a.data.toList b.data.toList)) ∧ w' = w := by
  go_enter Yba.func11, Yba.ntmps11
  go_wp2_with (go_at_call 29; refine (compare29 _ _ _).mono ?_; rintro e w' ⟨rfl, rfl⟩)
  go_ret
  exact ⟨rfl, rfl⟩

theorem cmp_spec : ∀ (a b : List UInt8), (Lib.compareBytes a b = 0 ∧ a = b) ∨ (Lib.compareBytes a b = 1 ∧ Op.bytesLess b a = true) ∨ (Lib.compareBytes a b = -1 ∧ Op.bytesLess a b = true)
  | [], [] => .inl ⟨rfl, rfl⟩
  | [], _ :: _ => .inr (.inr ⟨rfl, rfl⟩)
  | _ :: _, [] => .inr (.inl ⟨rfl, rfl⟩)
  | a :: x, b :: y => by
    have ih := cmp_spec x y
    simp only [Lib.compareBytes, Op.bytesLess, Bool.or_eq_true, decide_eq_true_eq, Bool.and_eq_true, beq_iff_eq]
    by_cases h1 : a < b
    · rw [if_pos h1]
      exact .inr (.inr ⟨rfl, .inl h1⟩)
    · rw [if_neg h1]
      by_cases h2 : b < a
      · rw [if_pos h2]
        exact .inr (.inl ⟨rfl, .inl h2⟩)
      · rw [if_neg h2]
        have e : a = b := UInt8.le_antisymm (UInt8.not_lt.1 h2) (UInt8.not_lt.1 h1)
        subst e
        rcases ih with ⟨h, rfl⟩ | ⟨h, k⟩ | ⟨h, k⟩
        · exact .inl ⟨h, rfl⟩
        · exact .inr (.inl ⟨h, .inr ⟨rfl, k⟩⟩)
        · exact .inr (.inr ⟨h, .inr ⟨rfl, k⟩⟩)

/-- the order of two keys, by what strings.Compare says -/
theorem cmp_keys (a b : ByteArray) : (Lib.compareBytes a.data.toList b.data.toList = 0 ∧ a = b) ∨ (Lib.compareBytes a.data.toList b.data.toList = 1 ∧ Lt b a) ∨ (Lib.compareBytes a.data.toList b.data.toList = -1 ∧ Lt a b) := by
  rcases cmp_spec a.data.toList b.data.toList with ⟨h, k⟩ | ⟨h, k⟩ | ⟨h, k⟩
  · exact .inl ⟨h, toList_inj (by rw [ByteArray.toList_eq, ByteArray.toList_eq]; exact k)⟩
  · exact .inr (.inl ⟨h, by unfold Lt; rw [ByteArray.toList_eq, ByteArray.toList_eq]; exact k⟩)
  · exact .inr (.inr ⟨h, by unfold Lt; rw [ByteArray.toList_eq, ByteArray.toList_eq]; exact k⟩)
end Go.Proofs.Ybulkbrzk.BT
