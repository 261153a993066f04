/-
  replace: the value of one entry.
-/
import Derived.Test.YbulkbrzkIns4
namespace Go.Proofs.Ybulkbrzk.BT
open Go Go.RowKit
set_option linter.unusedVariables false

theorem row_set {w : World} {e sz n eb cap j : Nat} {xs : List Value} (h : w.ownsRow 0 e sz (.slice (some ⟨eb, 0, none⟩) n cap) n xs) (hj : j < n * sz) (v : Value) :
    (w.setCell ⟨eb, j, none⟩ v).ownsRow 0 e sz (.slice (some ⟨eb, 0, none⟩) n cap) n (xs.set j v) := by
  obtain ⟨h1, h2, cur, hg, hs, ht⟩ := row_open h
  refine ⟨by simp [h.1], .inr ⟨eb, cap, cur.setIfInBounds j v, rfl, Nat.zero_le _, heap_setCell_same hg v, h1, h2, by simp [hs], ?_⟩⟩
  rw [Array.toList_setIfInBounds, ← ht, List.take_set]

theorem flat_set : ∀ (es : List E) (i : Nat) (v : Int), i < es.length → (es.flatMap eCells).set (i * 2 + 1) (.int .i64 v) = (es.set i (keyAt es i, v)).flatMap eCells
  | [], i, v, h => by simp at h
  | e :: es, 0, v, h => by simp [eCells, keyAt]
  | e :: es, i + 1, v, h => by
    have hk : keyAt (e :: es) (i + 1) = keyAt es i := by simp [keyAt]
    rw [List.flatMap_cons, List.set_append_right _ _ (by simp [eCells]; omega), List.set_cons_succ, List.flatMap_cons, hk, ← flat_set es i v (by simpa using h)]
    have e1 : (i + 1) * 2 + 1 - (eCells e).length = i * 2 + 1 := by simp [eCells]; omega
    rw [e1]

set_option maxRecDepth 100000 in
set_option maxHeartbeats 2000000 in
theorem replace_in (b g eb cap i : Nat) (s y v : Int) (kv : Value) (es : List E) (w : World) (hn : w.heap[b]? = some (nodeObj g s (wr y) (.slice (some ⟨eb, 0, none⟩) es.length cap) kv))
    (he : w.ownsRow 0 30 2 (.slice (some ⟨eb, 0, none⟩) es.length cap) es.length (es.flatMap eCells)) (hl : es.length ≤ 4096) (hi : i < es.length) (hbe : b ≠ eb) :
    Calls Yba.prog 38 #[.pointer (some ⟨b, 0, none⟩), .int .i64 i, .int .i64 v] w fun e w' => e = .returned (.int .i64 0) ∧ w'.heap[b]? = some (nodeObj g s (wr y) (.slice (some ⟨eb, 0, none⟩) es.length cap) kv) ∧
      w'.ownsRow 0 30 2 (.slice (some ⟨eb, 0, none⟩) es.length cap) es.length ((es.set i (keyAt es i, v)).flatMap eCells) ∧ Fr (fun j => j = b ∨ j = eb) w w' := by
  obtain ⟨q0, q1⟩ := entry_cells he i hi
  have c3 : w.cell? ⟨b, 3, none⟩ = some (.slice (some ⟨eb, 0, none⟩) es.length cap) := node_cell hn 3
  have c2 : w.cell? ⟨b, 2, none⟩ = some (.int .i64 (wr y)) := node_cell hn 2
  have f2 := node_frozen hn 2
  have hb : b < w.heap.size := (Array.getElem?_eq_some_iff.1 hn).1
  obtain ⟨h1, h2, cur, hg, hs, ht⟩ := row_open he
  have heb : eb < w.heap.size := (Array.getElem?_eq_some_iff.1 hg).1
  have fe : w.frozen? ⟨eb, i * 2 + 1, none⟩ = false := by simp [World.frozen?, hg]
  obtain ⟨k, hkd⟩ : ∃ k, k = keyAt es i := ⟨_, rfl⟩
  obtain ⟨v0, hv0⟩ : ∃ v0, v0 = valAt es i := ⟨_, rfl⟩
  rw [← hkd] at q0
  rw [← hv0] at q1
  obtain ⟨L, hL⟩ : ∃ L, L = es.length := ⟨_, rfl⟩
  rw [← hL] at c3
  have hiL : i < L := by omega
  have hLl : L ≤ 4096 := by omega
  have HB := fun k v w => entryBytes_in k v w
  have Hx := Lib.hid (And.intro hkd (And.intro hv0 (And.intro hL (And.intro he (And.intro hn (And.intro hg hl))))))
  clear hkd hv0 hL he hn hg ht hs hl hi
  go_enter Yba.func38, Yba.ntmps38
  go_upto_region 4 with (go_at_call 37; refine (HB _ _ _).mono ?_; rintro e w'' ⟨rfl, rfl⟩; unfold ebs)
  obtain ⟨z, hz⟩ : ∃ z : Array Value, z = #[.string ⟨#[]⟩, .int .u64 0, .int .u64 0, .int .u64 0, .int .u64 0] := ⟨_, rfl⟩
  rw [← hz]
  obtain ⟨W4, hW4⟩ : ∃ W4, W4 = (((((w.setCell ⟨eb, i * 2 + 1, none⟩ (.int .i64 v)).alloc (.cells #[.string k, .int .i64 v0] 30)).alloc (.cells z 133)).alloc (.cells #[.string k, .int .i64 v] 30)).alloc (.cells z 133)) := ⟨_, rfl⟩
  rw [← hW4]
  have hF4 : Fr (fun j => j = eb) w W4 := by rw [hW4]; exact (((((Fr.refl (fun j => j = eb) w).setCell (.inl rfl) _).alloc _).alloc _).alloc _).alloc _
  have hF4' : Fr (fun _ => False) (w.setCell ⟨eb, i * 2 + 1, none⟩ (.int .i64 v)) W4 := by rw [hW4]; exact ((((Fr.refl _ _).alloc _).alloc _).alloc _).alloc _
  have n4 := (hF4.block b hb hbe).trans Hx.out.2.2.2.2.1
  have r4 := row_fr (row_set Hx.out.2.2.2.1 (j := i * 2 + 1) (by have := Hx.out.2.2.1; omega) (.int .i64 v)) hF4' (fun h => h)
  have p2 : W4.cell? ⟨b, 2, none⟩ = some (.int .i64 (wr y)) := node_cell n4 2
  have g2 := node_frozen n4 2
  have hkz : wrap64 (wrap64 (-(k.size : Int)) + k.size) = 0 := by ((try unfold wr); (try simp only [IntKind.wrap_i64]); (try unfold RowKit.wrap64); omega)
  have hky : wrap64 (wr y + 0) = wr y := by ((try unfold wr); (try simp only [IntKind.wrap_i64]); (try unfold RowKit.wrap64); omega)
  have HZ := Lib.hid (And.intro hkz hky)
  clear hW4 c2 f2 q0 q1 c3 fe hkz hky
  go_wp2_with fail
  rw [HZ.out.1, HZ.out.2]
  go_ret
  have hFe : Fr (fun j => j = b ∨ j = eb) w (W4.setCell ⟨b, 2, none⟩ (.int .i64 (wr y))) := (hF4.mono (fun _ _ h => .inr h)).setCell (.inl (.inl rfl)) _
  refine ⟨rfl, node_set2 n4 _, ?_, hFe⟩
  rw [← flat_set es i v (by have := Hx.out.2.2.1; omega)]
  exact row_fr r4 ((Fr.refl (fun j => j = b) W4).setCell (.inl rfl) _) (fun h => hbe h.symm)
end Go.Proofs.Ybulkbrzk.BT
