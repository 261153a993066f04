/-
  splitAt and walk, whole.
-/
import Derived.Test.YbulkbrzkCut2
import Derived.Test.YbulkbrzkWalk2
namespace Go.Proofs.Ybulkbrzk.BT
open Go Go.RowKit
set_option linter.unusedVariables false

theorem cut_tree (tb g N : Nat) (key : ByteArray) : ∀ {h : Nat} (t : GT h) (w : World), 2 * h ≤ 4000 → w.cell? ⟨tb, 1, none⟩ = some (.int .u64 g) → tb ∉ t.fp g → N ≤ w.heap.size → Tree g N w t → (t.fp g).Nodup → t.flat.length ≤ 4000 → Sorted t.flat →
    Calls Yba.prog 12 #[.pointer (some ⟨tb, 0, none⟩), .pointer (some ⟨t.nd.b, 0, none⟩), .string key] w (CutPost g N (2 * h) key (t.fp g) t.flat w)
  | 0, t, w, hh, hg, htb, hN, ht, hnd, hl, hS => cut_leaf tb g N t key w hg hN ht hl hS
  | h + 1, t, w, hh, hg, htb, hN, ht, hnd, hl, hS => cut_inner tb g N t key w (by omega) hg htb hN ht hnd hl hS (fun K W a b c d e f i => cut_tree tb g N key K W (by omega) a b c d e f i)

set_option maxRecDepth 100000 in
set_option maxHeartbeats 1000000 in
theorem cut_nil (tb : Nat) (key : ByteArray) (w : World) : Calls Yba.prog 12 #[.pointer (some ⟨tb, 0, none⟩), .pointer none, .string key] w fun e w' => e = .returned (.tuple #[.pointer none, .pointer none]) ∧ w' = w := by
  have hp := ptr_nil w
  go_enter Yba.func12, Yba.ntmps12
  go_wp2_with fail
  go_ret2
  exact ⟨rfl, rfl⟩

theorem cut_root (tb g N : Nat) (key : ByteArray) (r : Root) (w : World) (hh : 2 * r.height ≤ 4000) (hg : w.cell? ⟨tb, 1, none⟩ = some (.int .u64 g)) (htb : tb ∉ r.fp g) (hN : N ≤ w.heap.size) (ht : RTree g N w r) (hnd : (r.fp g).Nodup) (hl : r.flat.length ≤ 4000) (hS : Sorted r.flat) :
    Calls Yba.prog 12 #[.pointer (some ⟨tb, 0, none⟩), .pointer r.pa, .string key] w (CutPost g N (2 * r.height) key (r.fp g) r.flat w) := by
  cases r with
  | none =>
    refine (cut_nil tb key w).mono ?_
    rintro e w' ⟨rfl, rfl⟩
    exact ⟨none, none, rfl, Nat.zero_le _, Nat.zero_le _, rfl, fun x hx => by simp [Root.flat] at hx, fun x hx => by simp [Root.flat] at hx, trivial, trivial, Grow.still (Fr.refl _ _) (fun x hx => by cases hx) (by simp [Root.fp])⟩
  | some t => exact cut_tree tb g N key t.2 w hh hg htb hN ht hnd hl hS

theorem walk_tree (g N : Nat) : ∀ {h : Nat} (t : GT h) (w : World) (ov : Value) (out : List E), Tree g N w t → w.ownsRow 0 30 2 ov out.length (out.flatMap eCells) → (∀ b, ov.ownBlock = some b → N ≤ b ∧ b ∉ t.fp g) → N ≤ w.heap.size → out.length + t.flat.length ≤ 4000 →
    Calls Yba.prog 16 #[t.ptr, ov] w (WalkPost t.flat ov out w)
  | 0, t, w, ov, out, ht, ho, hap, hN, hl => by
    refine walk_leaf g N t w ov out ht ho (fun b hb => ?_) (by omega) (by omega)
    have := lies_not (S := fun j => ov.ownBlock = some j) (fun i hi h => by have := (hap i h).1; omega) ht.lies (fun x hx h => (hap x h).2 (t.fp_own x hx))
    exact ⟨fun e => this.1 (by rw [← e]; exact hb), fun e => this.2.1 (by rw [← e]; exact hb)⟩
  | h + 1, t, w, ov, out, ht, ho, hap, hN, hl => walk_inner g N t w ov out ht ho hap hN hl (fun K W o ol a b c d e => walk_tree g N K W o ol a b c d e)

set_option maxRecDepth 100000 in
set_option maxHeartbeats 1000000 in
theorem walk_nil (ov : Value) (w : World) : Calls Yba.prog 16 #[.pointer none, ov] w fun e w' => e = .returned (.tuple #[ov, .int .i64 0, .int .i64 0, .bool true]) ∧ w' = w := by
  have hp := ptr_nil w
  go_enter Yba.func16, Yba.ntmps16
  go_wp2_with fail
  ((try simp only [Exit.inBlock, Exit.then]); refine bodyPost_ret (results_tmp4 rfl _ _ _) rfl ?_)
  exact ⟨rfl, rfl⟩

/-- walk of a whole tree from nothing: a new row of its entries -/
theorem walk_root (g N : Nat) (r : Root) (w : World) (ht : RTree g N w r) (hN : N ≤ w.heap.size) (hl : r.flat.length ≤ 4000) :
    Calls Yba.prog 16 #[.pointer r.pa, .slice none 0 0] w fun e w' => ∃ ov s y, e = .returned (.tuple #[ov, s, y, .bool true]) ∧ w'.ownsRow 0 30 2 ov r.flat.length (r.flat.flatMap eCells) ∧ (∀ b, ov.ownBlock = some b → w.heap.size ≤ b) ∧ Fr (fun _ => False) w w' := by
  have hrow : w.ownsRow 0 30 2 (.slice none 0 0) 0 [] := ⟨rfl, .inl ⟨rfl, rfl⟩⟩
  cases r with
  | none =>
    refine (walk_nil _ w).mono ?_
    rintro e w' ⟨rfl, rfl⟩
    exact ⟨_, _, _, rfl, hrow, fun b hb => by simp [Value.ownBlock] at hb, Fr.refl _ _⟩
  | some t =>
    refine (walk_tree g N t.2 w (.slice none 0 0) [] ht hrow (fun b hb => by simp [Value.ownBlock] at hb) hN (by rw [List.length_nil, Nat.zero_add]; exact hl)).mono ?_
    rintro e w' ⟨ov', rfl, h1, h2, h3⟩
    refine ⟨ov', _, _, rfl, ?_, ?_, h3.mono (fun i _ h => by simp [Value.ownBlock] at h)⟩
    · rw [List.length_nil, Nat.zero_add, List.nil_append] at h1
      exact h1
    · intro b hb
      rcases h2 with h | ⟨b2, h, h'⟩
      · rw [hb] at h
        simp [Value.ownBlock] at h
      · rw [hb] at h
        cases h
        exact h'
end Go.Proofs.Ybulkbrzk.BT
