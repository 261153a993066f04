/-
  freeze; the tree of the generation before.
-/
import Derived.Test.YbulkbrzkCheck
import Derived.Laws.Rows
namespace Go.Proofs.Ybulkbrzk.BT
open Go Go.RowKit
set_option linter.unusedVariables false

/-- after a freeze every node is foreign -/
theorem Tree.frozen' {g : Nat} {W : World} : {h : Nat} → {t : GT h} → Tree g 0 W t → Tree (g + 1) W.heap.size W t ∧ t.fp (g + 1) = []
  | 0, n, ht => by
    have hg : n.gen = g := by
      by_cases e : n.gen = g
      · exact e
      · have := ht.2
        unfold Nd.lies at this
        rw [if_neg e] at this
        exact absurd this.1 (by omega)
    have hne : ¬ n.gen = g + 1 := by omega
    obtain ⟨cap, kv, hb, he, hk⟩ := ht.1
    refine ⟨⟨⟨cap, kv, hb, he, hk⟩, ?_⟩, ?_⟩
    · unfold Nd.lies
      rw [if_neg hne]
      exact ⟨(Array.getElem?_eq_some_iff.1 hb).1, (he.lt n.eb rfl).2, fun h => by cases h⟩
    · show n.own (g + 1) false = []
      unfold Nd.own
      rw [if_neg hne]
  | h + 1, t, ht => by
    have hg : t.1.gen = g := by
      by_cases e : t.1.gen = g
      · exact e
      · have := ht.2.2.1
        unfold Nd.lies at this
        rw [if_neg e] at this
        exact absurd this.1 (by omega)
    have hne : ¬ t.1.gen = g + 1 := by omega
    have hkf : t.2.flatMap (GT.fp (g + 1)) = [] := by
      rw [List.flatMap_eq_nil_iff]
      exact fun k hk => (Tree.frozen' (ht.2.2.2.2 k hk)).2
    obtain ⟨cap, kv, hb, he, kcap, hkv, hk⟩ := ht.1
    refine ⟨⟨⟨cap, kv, hb, he, kcap, hkv, hk⟩, ht.2.1, ?_, fun _ => hkf, fun k hk => (Tree.frozen' (ht.2.2.2.2 k hk)).1⟩, ?_⟩
    · unfold Nd.lies
      rw [if_neg hne]
      subst hkv
      exact ⟨(Array.getElem?_eq_some_iff.1 hb).1, (he.lt t.1.eb rfl).2, fun _ => (hk.lt t.1.kb rfl).2⟩
    · show t.1.own (g + 1) true ++ _ = []
      unfold Nd.own
      rw [if_neg hne, hkf]
      rfl
theorem RTree.frozen' {g : Nat} {W : World} {r : Root} (h : RTree g 0 W r) : RTree (g + 1) W.heap.size W r ∧ r.fp (g + 1) = [] := by
  cases r with
  | none => exact ⟨trivial, rfl⟩
  | some t => exact Tree.frozen' (t := t.2) h

theorem results_cell1 {fn : Func} {p : Tmp} {ty : TypeId} (h : fn.results = #[.cell p ty]) (tmps : Array Value) (P : Program) (w : World) :
    (results fn tmps).run P w = ((asAddr (tmps.getD p undef)).run P w).andThen fun a w₁ => (loadVar ty a).run P w₁ := by
  simp only [results, h]
  simp [Sem.run_bind, Result.andThen]

set_option maxRecDepth 100000 in
set_option maxHeartbeats 2000000 in
theorem freeze_in (tb g : Nat) (p : Option Addr) (w : World) (hb : w.heap[tb]? = some (treeObj (.pointer p) g)) (hg : g ≤ 1000) :
    Calls Yba.prog 15 #[.pointer (some ⟨tb, 0, none⟩)] w fun e w' => e = .returned (.agg #[.pointer p, .int .u64 g]) ∧ w'.heap[tb]? = some (treeObj (.pointer p) (g + 1)) ∧ Fr (fun j => j = tb) w w' := by
  obtain ⟨c0, c1, f0⟩ := tree_cell0 hb
  have f1 : w.frozen? ⟨tb, 1, none⟩ = false := by simp [World.frozen?, hb, treeObj]
  have tbl := (Array.getElem?_eq_some_iff.1 hb).1
  go_enter Yba.func15, Yba.ntmps15
  go_wp2_with fail
  (try simp only [Exit.inBlock, Exit.then])
  refine bodyPost_ret (v := .agg #[.pointer p, .int .u64 g]) ?_ rfl ?_
  · rw [results_cell1 rfl]
    go_simp
  · refine ⟨rfl, ?_, (((Fr.refl (fun j => j = tb) w).setCell (p := ⟨tb, 1, none⟩) (.inl rfl) _).alloc _).alloc _⟩
    refine heap_alloc' (heap_alloc' ?_)
    exact heap_setCell_same (i := 1) hb _
end Go.Proofs.Ybulkbrzk.BT
