import Derived.Test.YbulkbseuGreatFr
import Derived.WalkKit
import Derived.WalkSpells
import Derived.WalkLawsBesides
import Derived.Deep.QuietTactic
import Derived.BigQuiet
import Derived.Deep.RegionWith
import Derived.Laws.LoneSync
namespace Go.Proofs.YbulkbseuGreat.AM
open Go Go.MapKept Go.RowKit
set_option linter.unusedVariables false

/-- a bool as atomic.Bool holds it -/
def bit : Bool → Int
  | true => 1
  | false => 0

theorem load_any (b : Nat) (x : Bool) (w : World) (hc : w.cell? ⟨b, 12, none⟩ = some (.int .u32 (bit x))) :
    Calls Ybaz.prog 7 #[.pointer (some ⟨b, 12, none⟩)] w fun e w' => e = .returned (.bool x) ∧ w' = w := by
  have hl := run_call_load (P := Ybaz.prog) Ybaz.func12 (by kernel_rfl) (by kernel_rfl) (by kernel_rfl) .u32 (by kernel_rfl) hc
  cases x with
  | true =>
    simp only [bit] at hl
    go_enter Ybaz.func7, Ybaz.ntmps7
    go_wp2
    go_ret
    exact ⟨rfl, rfl⟩
  | false =>
    simp only [bit] at hl
    go_enter Ybaz.func7, Ybaz.ntmps7
    go_wp2
    go_ret
    exact ⟨rfl, rfl⟩

theorem b32_any (x : Bool) (w : World) : Calls Ybaz.prog 11 #[.bool x] w fun e w' => e = .returned (.int .u32 (bit x)) ∧ w' = w := by
  cases x with
  | true =>
    go_enter Ybaz.func11, Ybaz.ntmps11
    go_wp2
    go_ret
    exact ⟨rfl, rfl⟩
  | false =>
    go_enter Ybaz.func11, Ybaz.ntmps11
    go_wp2
    go_ret
    exact ⟨rfl, rfl⟩

theorem store_any (b : Nat) (x : Bool) (u : Value) (w : World) (hc : w.cell? ⟨b, 12, none⟩ = some u) (hz : w.frozen? ⟨b, 12, none⟩ = false) :
    Calls Ybaz.prog 6 #[.pointer (some ⟨b, 12, none⟩), .bool x] w fun e w' => e = .returned (.tuple #[]) ∧ w' = (w.setCell ⟨b, 12, none⟩ (.int .u32 (bit x))).drew := by
  have hs : (callFunc 10 #[.pointer (some ⟨b, 12, none⟩), .int .u32 (bit x)]).run Ybaz.prog w.drew = .ok (.value (.tuple #[])) ((w.setCell ⟨b, 12, none⟩ (.int .u32 (bit x))).drew) :=
    run_call_store (P := Ybaz.prog) (w := w.drew) Ybaz.func10 (by kernel_rfl) (by kernel_rfl) (by kernel_rfl) (by kernel_rfl) hc hz
  have hs' := hs
  rw [show w.drew = w.drewN 1 from rfl] at hs'
  go_enter Ybaz.func6, Ybaz.ntmps6
  go_region_with (go_at_call 11; refine (b32_any x _).mono ?_; rintro e w' ⟨rfl, rfl⟩)
  all_goals go_wp2
  all_goals (go_end0; exact ⟨rfl, rfl⟩)

theorem cas_hit (b : Nat) (w : World) (hc : w.cell? ⟨b, 12, none⟩ = some (.int .u32 (bit false))) (hz : w.frozen? ⟨b, 12, none⟩ = false) :
    Calls Ybaz.prog 15 #[.pointer (some ⟨b, 12, none⟩), .bool false, .bool true] w fun e w' => e = .returned (.bool true) ∧ w' = (w.setCell ⟨b, 12, none⟩ (.int .u32 (bit true))).drew := by
  have hs : (callFunc 18 #[.pointer (some ⟨b, 12, none⟩), .int .u32 (bit false), .int .u32 (bit true)]).run Ybaz.prog w.drew = .ok (.value (.bool true)) ((w.setCell ⟨b, 12, none⟩ (.int .u32 (bit true))).drew) :=
    run_call_cas_hit (P := Ybaz.prog) (w := w.drew) Ybaz.func18 (by kernel_rfl) (by kernel_rfl) (by kernel_rfl) .u32 (by kernel_rfl) hc hz
  go_enter Ybaz.func15, Ybaz.ntmps15
  go_wp2
  go_region_with (first | (go_at_call_of 11 (Value.bool true); refine (b32_any true _).mono ?_; rintro e w' ⟨rfl, rfl⟩) | (go_at_call_of 11 (Value.bool false); refine (b32_any false _).mono ?_; rintro e w' ⟨rfl, rfl⟩))
  all_goals go_wp2
  all_goals (go_ret; exact ⟨rfl, rfl⟩)

theorem cas_miss (b : Nat) (w : World) (hc : w.cell? ⟨b, 12, none⟩ = some (.int .u32 (bit true))) (hz : w.frozen? ⟨b, 12, none⟩ = false) :
    Calls Ybaz.prog 15 #[.pointer (some ⟨b, 12, none⟩), .bool false, .bool true] w fun e w' => e = .returned (.bool false) ∧ w' = w.drew := by
  have hs : (callFunc 18 #[.pointer (some ⟨b, 12, none⟩), .int .u32 (bit false), .int .u32 (bit true)]).run Ybaz.prog w.drew = .ok (.value (.bool false)) w.drew :=
    run_call_cas_miss (P := Ybaz.prog) (w := w.drew) Ybaz.func18 (by kernel_rfl) (by kernel_rfl) (by kernel_rfl) .u32 (by kernel_rfl) hc hz (by decide)
  go_enter Ybaz.func15, Ybaz.ntmps15
  go_wp2
  go_region_with (first | (go_at_call_of 11 (Value.bool true); refine (b32_any true _).mono ?_; rintro e w' ⟨rfl, rfl⟩) | (go_at_call_of 11 (Value.bool false); refine (b32_any false _).mono ?_; rintro e w' ⟨rfl, rfl⟩))
  all_goals go_wp2
  all_goals (go_ret; exact ⟨rfl, rfl⟩)
end Go.Proofs.YbulkbseuGreat.AM
