/-
  clear on the upper part of a row.
-/
import Derived.Test.YbulkbrzkApp
namespace Go.Proofs.Ybulkbrzk.BT
open Go Go.RowKit
set_option linter.unusedVariables false

theorem clear_row (W : World) (t e ty : TypeId) (z : Value) (sz b n cap m : Nat) (xs : List Value) (ht : Yba.prog.underlying t = some (.slice e)) (hv : ∀ w, (zeroValue e).run Yba.prog w = .ok z w) (hzs : z.cells.size = sz) (hpos : 0 < sz) (h1 : ∀ i, i < sz → z.cells[i]!.oneCell' = true)
    (h : W.ownsRow 0 e sz (.slice (some ⟨b, 0, none⟩) n cap) n xs) (hm : m < n) :
    ∃ W', (Builtin.clear_ #[t] ty #[.slice (some ⟨b, m * sz, none⟩) (n - m) (cap - m)]).run Yba.prog W = .ok (.tuple #[]) W' ∧ W'.ownsRow 0 e sz (.slice (some ⟨b, 0, none⟩) m cap) m (xs.take (m * sz)) ∧ Fr (fun j => j = b) W W' := by
  obtain ⟨hn, hc, cur, hg, hs, ht'⟩ := row_open h
  have hlen : (Builtin.zeroCells z.cells (n - m)).toList.length = (n - m) * sz := by rw [Array.length_toList, size_zeroCells, hzs]
  have hin : ∀ j, j < (n - m) * sz → m * sz + j < cur.size := fun j hj => by
    have : (n - m) * sz + m * sz = n * sz := by rw [← Nat.add_mul, Nat.sub_add_cancel (Nat.le_of_lt hm)]
    have : n * sz ≤ cap * sz := Nat.mul_le_mul_right _ hn
    omega
  have hst := run_storeCells_cells (P := Yba.prog) b (m * sz) (Builtin.zeroCells z.cells (n - m)).toList 0 W (fun j hj => by
      rw [hlen] at hj
      have := hin j hj
      simp [World.cell?, hg, this]) (fun j hj => by simp [World.frozen?, hg]) (fun v hv => by
      simp only [Builtin.zeroCells, Array.toList_map, List.mem_map] at hv
      obtain ⟨i, hi, rfl⟩ := hv
      rw [hzs]
      exact h1 _ (Nat.mod_lt _ hpos))
  simp only [Nat.add_zero] at hst
  obtain ⟨q, hq⟩ : ∃ q, n - m = q + 1 := ⟨n - m - 1, by omega⟩
  obtain ⟨h2, h3⟩ := row_less (w' := W) h (Nat.le_of_lt hm) (Builtin.zeroCells z.cells (n - m)).toList hlen
  refine ⟨_, ?_, h2, h3⟩
  rw [hq] at hst ⊢
  simp [Builtin.clear_, run_underlying ht, hv, hst]

theorem zero30 (w : World) : (zeroValue 30).run Yba.prog w = .ok (.agg #[.string ⟨#[]⟩, .int .i64 0]) w := by kernel_rfl
theorem zero23 (w : World) : (zeroValue 23).run Yba.prog w = .ok (.pointer none) w := by kernel_rfl

theorem clearE (W : World) (ty : TypeId) (b n cap m : Nat) (xs : List Value) (h : W.ownsRow 0 30 2 (.slice (some ⟨b, 0, none⟩) n cap) n xs) (hm : m < n) :
    ∃ W', (Builtin.clear_ #[27] ty #[.slice (some ⟨b, m * 2, none⟩) (n - m) (cap - m)]).run Yba.prog W = .ok (.tuple #[]) W' ∧ W'.ownsRow 0 30 2 (.slice (some ⟨b, 0, none⟩) m cap) m (xs.take (m * 2)) ∧ Fr (fun j => j = b) W W' :=
  clear_row W 27 30 ty _ 2 b n cap m xs Yba.underlying27 zero30 rfl (by decide) (fun i hi => by
    match i, hi with
    | 0, _ => rfl
    | 1, _ => rfl) h hm
theorem clearK (W : World) (ty : TypeId) (b n cap m : Nat) (xs : List Value) (h : W.ownsRow 0 23 1 (.slice (some ⟨b, 0, none⟩) n cap) n xs) (hm : m < n) :
    ∃ W', (Builtin.clear_ #[90] ty #[.slice (some ⟨b, m, none⟩) (n - m) (cap - m)]).run Yba.prog W = .ok (.tuple #[]) W' ∧ W'.ownsRow 0 23 1 (.slice (some ⟨b, 0, none⟩) m cap) m (xs.take m) ∧ Fr (fun j => j = b) W W' := by
  have := clear_row W 90 23 ty _ 1 b n cap m xs Yba.underlying90 zero23 rfl (by decide) (fun i hi => by
    match i, hi with
    | 0, _ => rfl) h hm
  simpa only [Nat.mul_one] using this
end Go.Proofs.Ybulkbrzk.BT
