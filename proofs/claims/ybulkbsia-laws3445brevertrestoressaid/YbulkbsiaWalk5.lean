/-
  record, slices.Backward and its closure, revert.
-/
import Derived.Test.YbulkbsiaFr
import Derived.Test.YbulkbsiaUndo
import Derived.RangeFuncNested
import Derived.RangeFuncBound
import Derived.RangeFuncCalls
import Derived.RangeFuncLeaves
import Derived.RangeFuncBox
import Derived.Shelf.Abstract
import Derived.Shelf.RegionOpen
import Derived.WalkKit
import Derived.OwnWalk
import Derived.OwnWalkIn
import Derived.TacticsInMore
import Derived.LoopNIn
import Derived.LoopIn
import Derived.Laws.Tables
import Derived.Lib.Hide
namespace Go.Proofs.Ybulkbsia.AM
open Go Go.MapKept Go.RowKit Go.Shelf
set_option linter.unusedVariables false
attribute [local go_sem] Oper.semAt_some

/-- a change's four cells -/
def chCells (mb : Nat) (c : Ch) : List Value := [.map (some (mb + c.side)), .int .i64 c.key, .int .i64 c.val, .bool c.held]
/-- .. and its value -/
def chVal (mb : Nat) (c : Ch) : Value := .agg #[.map (some (mb + c.side)), .int .i64 c.key, .int .i64 c.val, .bool c.held]

theorem info41 : (Yba.prog.info? 41).map (fun i => (i.zero, i.size, i.bytes)) = some (some (.agg #[.map none, .int .i64 0, .int .i64 0, .bool false]), 4, 32) := by kernel_rfl

set_option maxRecDepth 100000 in
set_option maxHeartbeats 1000000 in
theorem record_in (lb mb base n : Nat) (c : Ch) (L : Tab) (xs : List Value) (v : Value) (w : World) (hG : Good L) (hm : MapAt enc w (mb + c.side) L) (hval : c.val = val L c.key) (hheld : c.held = held L c.key)
    (hl : w.cell? ⟨lb, 0, none⟩ = some v) (hf : w.frozen? ⟨lb, 0, none⟩ = false) (hown : w.ownsRow base 41 4 v n xs) (hlb : lb < base) (hb : base ≤ w.heap.size) (hn : n ≤ 1024) :
    Calls Yba.prog 4 #[.pointer (some ⟨lb, 0, none⟩), .map (some (mb + c.side)), .int .i64 c.key] w fun e w' => e = .returned (.tuple #[]) ∧
      ∃ v', w'.cell? ⟨lb, 0, none⟩ = some v' ∧ w'.frozen? ⟨lb, 0, none⟩ = false ∧ w'.ownsRow base 41 4 v' (n + 1) (xs ++ chCells mb c) ∧ Fr (fun i => i = lb ∨ v.ownBlock = some i) w w' := by
  have hlk := run_look keys3 Yba.underlying24 zero3 w (mb + c.side) L c.key hm true
  rw [hG.look, ← hval] at hlk
  have hlk' : (Instr.lookup 24 (.map (some (mb + c.side))) (.int .i64 c.key) true).run Yba.prog w = .ok (.tuple #[.int .i64 c.val, .bool c.held]) w := by rw [hheld]; exact hlk
  obtain ⟨i, hi, hz0, hz1, hz2⟩ := info_parts info41
  obtain ⟨W1, hW1⟩ : ∃ W1, W1 = w.alloc (.cells (chCells mb c).toArray 41) := ⟨_, rfl⟩
  have hown1 : W1.ownsRow base 41 4 v n xs := hown.kept (row := none) (by rw [hW1]; exact World.grownBy_alloc w _ none) (by cases hv : v.ownBlock <;> simp)
  have hnews : ∀ j u, (chCells mb c)[j]? = some u → W1.cell? ((⟨w.heap.size, 0, none⟩ : Addr).add j) = some u := fun j u hu => by
    rw [hW1, show (⟨w.heap.size, 0, none⟩ : Addr).add j = ⟨w.heap.size, j, none⟩ from by unfold Addr.add; split <;> simp_all]; rw [World.cell?_alloc_new]; simpa using hu
  have h1c : ∀ u ∈ chCells mb c, u.oneCell' = true := fun u hu => by simp [chCells] at hu; rcases hu with rfl | rfl | rfl | rfl <;> rfl
  have hr : ∀ r, v.ownBlock = some r → base ≤ r := fun r h => (hown.lt r h).1
  have hlw : lb < w.heap.size := World.block_lt_of_cell? _ _ hl
  have hlw1 : lb < W1.heap.size := by rw [hW1]; simp; omega
  have hb1 : base ≤ W1.heap.size := by rw [hW1]; simp; omega
  have c1 : W1.cell? ⟨lb, 0, none⟩ = some v := by rw [hW1]; exact (World.cell?_alloc_lt _ _ _ hlw).trans hl
  have f1 : W1.frozen? ⟨lb, 0, none⟩ = false := by rw [hW1]; exact (World.frozen?_of_block (w := w) (Below.heap_alloc _ _ _ hlw)).trans hf
  have hne : some lb ≠ v.ownBlock := fun e => by have := hr lb e.symm; omega
  have hF1 : Fr (fun i => i = lb ∨ v.ownBlock = some i) w W1 := by rw [hW1]; exact (Fr.refl _ _).alloc _
  have hW1' : W1 = w.alloc (.cells #[.map (some (mb + c.side)), .int .i64 c.key, .int .i64 c.val, .bool c.held] 41) := hW1
  have Hc := Lib.hid (And.intro c1 (And.intro f1 (And.intro hne (And.intro hF1 (And.intro hr (And.intro hown1 (And.intro hnews h1c)))))))
  have Hi := Lib.hid (And.intro hi (And.intro hz0 (And.intro hz1 hz2)))
  have Hw := Lib.hid hW1'
  clear hnews h1c hown1 hown hr hW1 hW1' hF1 hlk hne hm hG hval hheld hz0 hz1 hz2 hi c1 f1
  go_enter Yba.func4, Yba.ntmps4
  go_wp2_with (at_builtin; rw [← Hw.out]; refine wpList_append_own _ rfl _ _ 33 rfl base 41 i _ 4 32 Yba.underlying33 Hi.out.1 Hi.out.2.1 Hi.out.2.2.1 Hi.out.2.2.2 rfl (by decide) v n xs rfl Hc.out.2.2.2.2.2.1 ⟨w.heap.size, 0, none⟩ 1 1 (chCells mb c) rfl rfl Hc.out.2.2.2.2.2.2.1 Hc.out.2.2.2.2.2.2.2 (by unfold maxLen; omega) (by omega) hb1 ?_
               intro v' W2 hown2 hg2 _; obtain ⟨g', cap', rfl⟩ := ownsRow_succ hown2
               have c2 : W2.cell? ⟨lb, 0, none⟩ = some v := (World.cell?_of_block (w := W1) (hg2.block lb hlw1 Hc.out.2.2.1)).trans Hc.out.1
               have f2 : W2.frozen? ⟨lb, 0, none⟩ = false := (World.frozen?_of_block (w := W1) (hg2.block lb hlw1 Hc.out.2.2.1)).trans Hc.out.2.1
               have hF2 : Fr (fun i => i = lb ∨ v.ownBlock = some i) w W2 := Hc.out.2.2.2.1.grown hg2 (fun r h => .inl (.inr h)))
  go_end0
  have hF3 := hF2.setCell (p := ⟨lb, 0, none⟩) (.inl (.inl rfl)) (.slice (some ⟨g', 0, none⟩) (n + 1) cap')
  refine ⟨rfl, _, World.cell?_setCell_same _ _ _ c2, (World.frozen?_setCell _ _ _ _).trans f2, ?_, hF3⟩
  have hg := (hown2.lt g' rfl).1
  exact hown2.kept (row := some lb) (grownBy_setCell' W2 lb _) (.inr (by simp [Value.ownBlock]; omega))
end Go.Proofs.Ybulkbsia.AM
