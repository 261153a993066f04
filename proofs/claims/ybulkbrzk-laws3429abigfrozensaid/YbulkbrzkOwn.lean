/-
  own: a node of the tree's generation: itself, or a copy.
-/
import Derived.Test.YbulkbrzkRepl
namespace Go.Proofs.Ybulkbrzk.BT
open Go Go.RowKit
set_option linter.unusedVariables false

/-- append as one step of a region that draws, its run known by an equation -/
theorem step_append_run {P : Program} {ops : Array Oper} {o : Oper} {a : Act} {w : World} {K : Act → World → Prop} {Q : Exit → Act → World → Prop} {E : Prop}
    (hg : o.guard = none) (d x : Operand) (dT sT : TypeId) (hop : o.op = Op.call { callee := Callee.builtin Builtin.append, args := #[d, x], argTypes := #[dT, sT] })
    (v u : Value) (hd : a.eval d = v) (hx : a.eval x = u) {v' : Value} {w' : World} (hr : (Builtin.append_ #[dT, sT] o.type #[v, u]).run P w = .ok v' w') (hK : K (a.put o.dst v') w') :
    if Region.wanted o (yielded ops a.tmps) = true then Oper.wp P o a w K Q else E := by
  have hw : Region.wanted o (yielded ops a.tmps) = true := by simp [Region.wanted, hg]
  rw [if_pos hw]
  unfold Oper.wp
  simp [execOp, hop, resolve, invoke, builtin, hd, hx, hr, Result.andThen]
  exact hK

theorem make90 (w : World) : (Instr.makeSlice 90 (.int .i64 0) (.int .i64 32)).run Yba.prog w = .ok (.slice (some ⟨w.heap.size, 0, none⟩) 0 32) (w.alloc (.cells (madeCells #[.pointer none] 32) 23)) := by
  obtain ⟨i, hi, hz0, hz1, hz2⟩ := info_parts info23
  have := run_make (P := Yba.prog) w 90 23 i (.pointer none) Yba.underlying90 hi hz0 .i64 .i64 0 32 (by omega) (by omega) (by rw [hz2]; omega) (by omega)
  rw [hz1] at this
  exact this

set_option maxRecDepth 100000 in
set_option maxHeartbeats 2000000 in
theorem own_same (tb g b : Nat) (s y : Int) (ev kv : Value) (w : World) (hg : w.cell? ⟨tb, 1, none⟩ = some (.int .u64 g)) (hn : w.heap[b]? = some (nodeObj g s y ev kv)) :
    Calls Yba.prog 23 #[.pointer (some ⟨tb, 0, none⟩), .pointer (some ⟨b, 0, none⟩)] w fun e w' => e = .returned (.pointer (some ⟨b, 0, none⟩)) ∧ ∃ q, w' = w.drewN q := by
  have c0 : w.cell? ⟨b, 0, none⟩ = some (.int .u64 g) := node_cell hn 0
  clear hn
  go_enter Yba.func23, Yba.ntmps23
  go_wp2_with fail
  go_quiet (fail)
  go_wp2_with fail
  go_ret
  exact ⟨rfl, nq, rfl⟩

theorem e31_row (w : World) (g : Nat) : (newW w g).ownsRow 0 30 2 (.slice (some ⟨w.heap.size, 0, none⟩) 0 31) 0 [] := by
  refine ⟨rfl, .inr ⟨w.heap.size, 31, e31, rfl, Nat.zero_le _, ?_, by omega, by unfold maxLen; omega, e31_size, by simp⟩⟩
  exact heap_alloc' (by show (w.heap.push _)[w.heap.size]? = _; simp)

theorem new_node (w : World) (g : Nat) : (newW w g).heap[w.heap.size + 1]? = some (nodeObj g 0 0 (.slice (some ⟨w.heap.size, 0, none⟩) 0 31) (.slice none 0 0)) := by
  show ((w.heap.push _).push _)[w.heap.size + 1]? = _
  rw [Array.getElem?_push]
  simp [nodeObj]

theorem new_fr (w : World) (g : Nat) : Fr (fun _ => False) w (newW w g) := ((Fr.refl _ _).alloc _).alloc _
theorem new_size (w : World) (g : Nat) : (newW w g).heap.size = w.heap.size + 2 := by simp [newW]

theorem eCells_one (es : List E) : ∀ v ∈ es.flatMap eCells, v.oneCell' = true := fun v hv => by
  obtain ⟨e, _, he⟩ := List.mem_flatMap.1 hv
  simp [eCells] at he
  rcases he with rfl | rfl <;> rfl
theorem ptrs_one (l : List Nat) : ∀ v ∈ ptrs l, v.oneCell' = true := fun v hv => by
  obtain ⟨e, _, rfl⟩ := List.mem_map.1 hv
  rfl
theorem eCells_length (es : List E) : (es.flatMap eCells).length = es.length * 2 := by
  induction es with
  | nil => rfl
  | cons e es ih => rw [List.flatMap_cons, List.length_append, ih]; simp [eCells]; omega

/-- a row's cells, by address -/
theorem row_add {w : World} {e sz n b cap : Nat} {xs : List Value} (h : w.ownsRow 0 e sz (.slice (some ⟨b, 0, none⟩) n cap) n xs) : ∀ j u, xs[j]? = some u → w.cell? ((⟨b, 0, none⟩ : Addr).add j) = some u := fun j u hu => by
  rw [show (⟨b, 0, none⟩ : Addr).add j = ⟨b, j, none⟩ from by unfold Addr.add; split <;> simp_all]
  have hj : j < xs.length := (List.getElem?_eq_some_iff.1 hu).1
  rw [row_cell h j (by rw [← h.1]; exact hj)]
  exact hu
end Go.Proofs.Ybulkbrzk.BT
