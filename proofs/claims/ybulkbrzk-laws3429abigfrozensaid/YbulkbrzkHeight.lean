/-
  height; cmp.Or of two nodes.
-/
import Derived.Test.YbulkbrzkSet
namespace Go.Proofs.Ybulkbrzk.BT
open Go Go.RowKit
set_option linter.unusedVariables false

theorem ptr_neq_nil (W : World) : (binOp .neq 23 (.pointer none) (.pointer none)).run Yba.prog W = .ok (.bool false) W := by kernel_rfl
theorem ptr_neq_some (W : World) (a : Addr) : (binOp .neq 23 (.pointer (some a)) (.pointer none)).run Yba.prog W = .ok (.bool true) W := by kernel_rfl

set_option maxRecDepth 100000 in
set_option maxHeartbeats 4000000 in
theorem height_in {h : Nat} (g N : Nat) (t : GT h) (w : World) (ht : Tree g N w t) (hh : h ≤ 4096) :
    Calls Yba.prog 54 #[t.ptr] w fun e w' => e = .returned (.int .i64 h) ∧ w' = w := by
  have HT := Lib.hid ht
  clear ht
  go_enter Yba.func54, Yba.ntmps54
  go_upto_region 2 with fail
  go_loopw [0, 3] (fun p i wx => ∃ (h' j : Nat) (t' : GT h'), p = .pointer (some ⟨t'.nd.b, 0, none⟩) ∧ i = .int .i64 j ∧ j + h' = h ∧ Tree g N w t' ∧ wx = w) (fun _ i _ => h - (intOf i).toNat)
  case atStart => exact ⟨h, 0, t, rfl, rfl, by omega, HT.out, rfl⟩
  case round =>
    obtain ⟨h', j, t', rfl, rfl, hj, hT, rfl⟩ := hrel
    rename World => w
    cases h' with
    | zero =>
      obtain ⟨cap, kv, hb, _, hk⟩ := hT.at
      have hkv : kv = .slice none 0 0 := hk
      subst hkv
      have c4 := node_cell hb 4
      have c4' : w.cell? ⟨t'.nd.b, 4, none⟩ = some (.slice none 0 0) := c4
      have hkn := kids_nil w
      have HJ := Lib.hid hj
      clear hj hb hk hT c4 HT
      go_wp2_with fail
      go_ret
      refine ⟨?_, rfl⟩
      have := HJ.out
      have e : j = h := by omega
      rw [e]
      rfl
    | succ h'' =>
      obtain ⟨cap, kv, hb, _, kcap, rfl, hk⟩ := hT.1
      have hl : t'.2.length = t'.1.es.length + 1 := hT.2.1
      cases hks : t'.2 with
      | nil => rw [hks] at hl; simp at hl
      | cons k ks =>
        rw [hks] at hb hk
        have hTk : Tree g N w k := hT.2.2.2.2 k (by rw [hks]; simp)
        have c4 : w.cell? ⟨t'.nd.b, 4, none⟩ = some (.slice (some ⟨t'.1.kb, 0, none⟩) ((k :: ks).map fun k => k.nd.b).length kcap) := node_cell hb 4
        have c0 : w.cell? ⟨t'.1.kb, 0, none⟩ = some (.pointer (some ⟨k.nd.b, 0, none⟩)) := by
          rw [row_cell hk 0 (by simp)]
          simp [ptrs]
        have hkn := kids_some w ⟨t'.1.kb, 0, none⟩ ((k :: ks).map fun k => k.nd.b).length kcap
        obtain ⟨M, hM⟩ : ∃ M, M = ((k :: ks).map fun k => k.nd.b).length := ⟨_, rfl⟩
        rw [← hM] at c4 hkn
        have hM0 : 0 < M := by rw [hM]; simp
        have HJ := Lib.hid (And.intro hj hTk)
        have hjb : j < h := by omega
        clear hj hb hk hT HT hl hks hM hTk
        go_wp2_with fail
        go_roundw
        case rel => exact ⟨h'', j + 1, k, rfl, by go_num, by have := HJ.out.1; omega, HJ.out.2, trivial⟩
        case measure => simp [intOf]; omega

set_option maxRecDepth 100000 in
set_option maxHeartbeats 4000000 in
theorem or_in (vb : Nat) (p0 p1 : Option Addr) (w : World) (h0 : w.cell? ⟨vb, 0, none⟩ = some (.pointer p0)) (h1 : w.cell? ⟨vb, 1, none⟩ = some (.pointer p1)) :
    Calls Yba.prog 52 #[.slice (some ⟨vb, 0, none⟩) 2 2] w fun e w' => e = .returned (.pointer (if p0 = none then p1 else p0)) ∧ w' = w := by
  have hn := fun W => ptr_neq_nil W
  have hs := fun W a => ptr_neq_some W a
  go_enter Yba.func52, Yba.ntmps52
  go_upto_region 3 with fail
  go_loopw [8] (fun i wx => ((i = .int .i64 0) ∨ (i = .int .i64 1 ∧ p0 = none) ∨ (i = .int .i64 2 ∧ p0 = none ∧ p1 = none)) ∧ wx = w) (fun i _ => 2 - (intOf i).toNat)
  case atStart => exact ⟨.inl rfl, rfl⟩
  case round =>
    obtain ⟨hc, rfl⟩ := hrel
    rename World => w
    rcases hc with rfl | ⟨rfl, rfl⟩ | ⟨rfl, rfl, rfl⟩
    · cases p0 with
      | none =>
        go_wp2_with fail
        go_roundw
        case rel => exact ⟨.inr (.inl ⟨by go_num, trivial⟩), trivial⟩
        case measure => simp [intOf]
      | some a =>
        go_wp2_with fail
        go_ret
        exact ⟨by simp, rfl⟩
    · cases p1 with
      | none =>
        go_wp2_with fail
        go_roundw
        case rel => exact ⟨.inr (.inr ⟨by go_num, trivial, trivial⟩), trivial⟩
        case measure => simp [intOf]
      | some a =>
        go_wp2_with fail
        go_ret
        exact ⟨by simp, rfl⟩
    · go_wp2_with fail
      go_ret
      exact ⟨by simp, rfl⟩
end Go.Proofs.Ybulkbrzk.BT
