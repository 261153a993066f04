import Derived.Test.YbulkbrzkRows
import Derived.WalkKit
import Derived.ProofKit
import Derived.OpenShut
import Derived.ShutString
namespace Go.Proofs.Ybulkbrzk.Lose
open Go.ChangeShapes Go.WideShapes Go.ChangeAt Go.RowKit

/-- 'Lose' at an index that is not below the noted one: the note is replaced. The two blocks are the boxed receiver and the result's own cell. -/
theorem lose_yes (t v li lt i : Int) (w : World) (h : li ≤ i) :
    Calls Yba.prog 18 #[.agg #[.int .u64 t, .int .u64 v, .int .u64 li, .int .u64 lt], .int .u64 i] w fun e w' =>
      e = .returned (.agg #[.int .u64 t, .int .u64 v, .int .u64 i, .int .u64 t]) ∧
        w' = (w.alloc (.cells #[.int .u64 t, .int .u64 v, .int .u64 i, .int .u64 t] 47)).alloc (.cells #[.int .u64 t, .int .u64 v, .int .u64 i, .int .u64 t] 47) := by
  go_enter Yba.func18, Yba.ntmps18
  go_wp2
  exact bodyPost_ret (v := .agg #[.int .u64 t, .int .u64 v, .int .u64 i, .int .u64 t]) (by simp [results, Yba.results18, go_sem]) rfl ⟨rfl, rfl⟩

/-- 'Lose' at an index below the noted one: nothing turns. -/
theorem lose_no (t v li lt i : Int) (w : World) (h : ¬ li ≤ i) :
    Calls Yba.prog 18 #[.agg #[.int .u64 t, .int .u64 v, .int .u64 li, .int .u64 lt], .int .u64 i] w fun e w' =>
      e = .returned (.agg #[.int .u64 t, .int .u64 v, .int .u64 li, .int .u64 lt]) ∧
        w' = (w.alloc (.cells #[.int .u64 t, .int .u64 v, .int .u64 li, .int .u64 lt] 47)).alloc (.cells #[.int .u64 t, .int .u64 v, .int .u64 li, .int .u64 lt] 47) := by
  go_enter Yba.func18, Yba.ntmps18
  go_wp2
  exact bodyPost_ret (v := .agg #[.int .u64 t, .int .u64 v, .int .u64 li, .int .u64 lt]) (by simp [results, Yba.results18, go_sem]) rfl ⟨rfl, rfl⟩

/-- 'lost': the noted pair. -/
theorem lost_any (t v li lt : Int) (w : World) :
    Calls Yba.prog 19 #[.agg #[.int .u64 t, .int .u64 v, .int .u64 li, .int .u64 lt]] w fun e w' =>
      e = .returned (.agg #[.int .u64 li, .int .u64 lt]) ∧
        w' = (w.alloc (.cells #[.int .u64 t, .int .u64 v, .int .u64 li, .int .u64 lt] 47)).alloc (.cells #[.int .u64 li, .int .u64 lt] 51) := by
  go_enter Yba.func19, Yba.ntmps19
  go_wp2
  exact bodyPost_ret (v := .agg #[.int .u64 li, .int .u64 lt]) (by simp [results, Yba.results19, go_sem]) rfl ⟨rfl, rfl⟩

end Go.Proofs.Ybulkbrzk.Lose
