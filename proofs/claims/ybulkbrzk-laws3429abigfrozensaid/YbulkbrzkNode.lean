/-
  The small functions on a node.
-/
import Derived.Test.YbulkbrzkTree
import Derived.Laws.MakeOwn
import Derived.Laws.Tables
import Derived.Deep.LoopGhost
import Derived.Deep.DeepCutAuto
import Derived.Deep.QuietTactic
import Derived.Deep.RegionWith
import Derived.Lib.Hide
import Derived.OwnWalk
namespace Go.Proofs.Ybulkbrzk.BT
open Go Go.RowKit
set_option linter.unusedVariables false

theorem no_item (v : Int) (w : World) : (Instr.typeAssert (.iface 3 (.int .i64 v)) 20 133 true).run Yba.prog w = .ok (.tuple #[.agg #[.string ⟨#[]⟩, .int .u64 0, .int .u64 0, .int .u64 0, .int .u64 0], .bool false]) w := by
  unfold Instr.typeAssert
  kernel_rfl

/-- what entryBytes lays: its entry, and a zero item -/
def ebs (w : World) (k : ByteArray) (v : Int) : World := (w.alloc (.cells #[.string k, .int .i64 v] 30)).alloc (.cells #[.string ⟨#[]⟩, .int .u64 0, .int .u64 0, .int .u64 0, .int .u64 0] 133)

theorem ebs_fr (w : World) (k : ByteArray) (v : Int) : Fr (fun _ => False) w (ebs w k v) := ((Fr.refl _ _).alloc _).alloc _

set_option maxRecDepth 100000 in
set_option maxHeartbeats 1000000 in
theorem entryBytes_in (k : ByteArray) (v : Int) (w : World) :
    Calls Yba.prog 37 #[.agg #[.string k, .int .i64 v]] w fun e w' => e = .returned (.int .i64 k.size) ∧ w' = ebs w k v := by
  have hn := fun w => no_item v w
  go_enter Yba.func37, Yba.ntmps37
  go_wp2_with fail
  go_ret
  exact ⟨rfl, rfl⟩

theorem info30 : (Yba.prog.info? 30).map (fun i => (i.zero, i.size, i.bytes)) = some (some (.agg #[.string ⟨#[]⟩, .int .i64 0]), 2, 24) := by kernel_rfl
theorem info23 : (Yba.prog.info? 23).map (fun i => (i.zero, i.size, i.bytes)) = some (some (.pointer none), 1, 8) := by kernel_rfl

/-- 31 empty entries -/
def e31 : Array Value := madeCells #[.string ⟨#[]⟩, .int .i64 0] (31 * 2)
theorem make27 (w : World) : (Instr.makeSlice 27 (.int .i64 0) (.int .i64 31)).run Yba.prog w = .ok (.slice (some ⟨w.heap.size, 0, none⟩) 0 31) (w.alloc (.cells e31 30)) := by
  obtain ⟨i, hi, hz0, hz1, hz2⟩ := info_parts info30
  have := run_make (P := Yba.prog) w 27 30 i (.agg #[.string ⟨#[]⟩, .int .i64 0]) Yba.underlying27 hi hz0 .i64 .i64 0 31 (by omega) (by omega) (by rw [hz2]; omega) (by omega)
  rw [hz1] at this
  exact this
theorem e31_size : e31.size = 31 * 2 := by simp [e31, madeCells]

/-- a new node of generation g -/
def newW (w : World) (g : Nat) : World := (w.alloc (.cells e31 30)).alloc (.cells #[.int .u64 g, .int .i64 0, .int .i64 0, .slice (some ⟨w.heap.size, 0, none⟩) 0 31, .slice none 0 0] 92)

set_option maxRecDepth 100000 in
set_option maxHeartbeats 1000000 in
theorem newNode_in (tb g : Nat) (w : World) (hg : w.cell? ⟨tb, 1, none⟩ = some (.int .u64 g)) :
    Calls Yba.prog 22 #[.pointer (some ⟨tb, 0, none⟩)] w fun e w' => e = .returned (.pointer (some ⟨w.heap.size + 1, 0, none⟩)) ∧ w' = (newW w g).drew := by
  have hm := fun w => make27 w
  have htb : tb < w.heap.size := World.block_lt_of_cell? _ _ hg
  go_enter Yba.func22, Yba.ntmps22
  go_wp2_with fail
  go_region
  all_goals
    go_wp2_with fail
    go_ret
    exact ⟨rfl, rfl⟩

/-- the node's five cells, as its block -/
def nodeObj (g : Nat) (s y : Int) (ev kv : Value) : Obj := .cells #[.int .u64 g, .int .i64 s, .int .i64 y, ev, kv] 92 (0, 0)

theorem heap_setCell_same {W : World} {b i : Nat} {c : Array Value} {t : TypeId} {fz : Nat × Nat} (h : W.heap[b]? = some (.cells c t fz)) (v : Value) : (W.setCell ⟨b, i, none⟩ v).heap[b]? = some (.cells (c.setIfInBounds i v) t fz) := by
  simp [World.setCell, Array.getElem?_modify, h]

theorem node_cell {W : World} {b g : Nat} {s y : Int} {ev kv : Value} (h : W.heap[b]? = some (nodeObj g s y ev kv)) (i : Nat) : W.cell? ⟨b, i, none⟩ = (#[.int .u64 g, .int .i64 s, .int .i64 y, ev, kv] : Array Value)[i]? := by
  simp [World.cell?, h, nodeObj]
theorem node_frozen {W : World} {b g : Nat} {s y : Int} {ev kv : Value} (h : W.heap[b]? = some (nodeObj g s y ev kv)) (i : Nat) : W.frozen? ⟨b, i, none⟩ = false := by
  simp [World.frozen?, h, nodeObj]


/-- within reach: no sum of a few of these wraps -/
abbrev Fits (x : Int) : Prop := 0 ≤ x ∧ x ≤ 1152921504606846976

theorem node_set1 {W : World} {b g : Nat} {s y : Int} {ev kv : Value} (h : W.heap[b]? = some (nodeObj g s y ev kv)) (s' : Int) : (W.setCell ⟨b, 1, none⟩ (.int .i64 s')).heap[b]? = some (nodeObj g s' y ev kv) := heap_setCell_same h _
theorem node_set2 {W : World} {b g : Nat} {s y : Int} {ev kv : Value} (h : W.heap[b]? = some (nodeObj g s y ev kv)) (y' : Int) : (W.setCell ⟨b, 2, none⟩ (.int .i64 y')).heap[b]? = some (nodeObj g s y' ev kv) := heap_setCell_same h _
theorem node_set3 {W : World} {b g : Nat} {s y : Int} {ev kv : Value} (h : W.heap[b]? = some (nodeObj g s y ev kv)) (ev' : Value) : (W.setCell ⟨b, 3, none⟩ ev').heap[b]? = some (nodeObj g s y ev' kv) := heap_setCell_same h _
theorem node_set4 {W : World} {b g : Nat} {s y : Int} {ev kv : Value} (h : W.heap[b]? = some (nodeObj g s y ev kv)) (kv' : Value) : (W.setCell ⟨b, 4, none⟩ kv').heap[b]? = some (nodeObj g s y ev kv') := heap_setCell_same h _
theorem heap_alloc' {W : World} {b : Nat} {o o' : Obj} (h : W.heap[b]? = some o') : (W.alloc o).heap[b]? = some o' := (Below.heap_alloc _ _ _ (Array.getElem?_eq_some_iff.1 h).1).trans h

set_option maxRecDepth 100000 in
set_option maxHeartbeats 2000000 in
theorem count_in (b g : Nat) (sg s y : Int) (ev kv : Value) (k : ByteArray) (v : Int) (kid : Option Nat) (ks ky : Int) (w : World) (hsg : sg = 1 ∨ sg = -1) (hn : w.heap[b]? = some (nodeObj g s (wr y) ev kv)) (hs : Fits s)
    (hkid : ∀ c, kid = some c → Fits ks ∧ c ≠ b ∧ ∃ g' ev' kv', w.heap[c]? = some (nodeObj g' ks (wr ky) ev' kv')) (h0 : kid = none → ks = 0 ∧ ky = 0) :
    Calls Yba.prog 36 #[.pointer (some ⟨b, 0, none⟩), .int .i64 sg, .agg #[.string k, .int .i64 v], .pointer (kid.map fun c => ⟨c, 0, none⟩)] w fun e w' => e = .returned (.tuple #[]) ∧ w'.heap[b]? = some (nodeObj g (s + sg * (1 + ks)) (wr (y + sg * (k.size + ky))) ev kv) ∧ Fr (fun i => i = b) w w' := by
  have hb : b < w.heap.size := (Array.getElem?_eq_some_iff.1 hn).1
  have c1 : w.cell? ⟨b, 1, none⟩ = some (.int .i64 s) := node_cell hn 1
  have f1 := node_frozen hn 1
  have heb := fun w => entryBytes_in k v w
  obtain ⟨hs1, hs2⟩ := hs
  have hsg1 : -1 ≤ sg ∧ sg ≤ 1 := by omega
  have Hmul := Lib.hid (show ∀ x : Int, sg * x = if sg = 1 then x else -x from fun x => by rcases hsg with rfl | rfl <;> simp)
  go_enter Yba.func36, Yba.ntmps36
  go_upto_region 2 with fail
  obtain ⟨W1, hW1⟩ : ∃ W1, W1 = (w.setCell ⟨b, 1, none⟩ (.int .i64 (s + sg))).alloc (.cells #[.string k, .int .i64 v] 30) := ⟨_, rfl⟩
  rw [← hW1]
  have n1 : W1.heap[b]? = some (nodeObj g (s + sg) (wr y) ev kv) := by rw [hW1]; exact heap_alloc' (node_set1 hn _)
  have p0 : W1.cell? ⟨w.heap.size, 0, none⟩ = some (.string k) := by
    have := World.cell?_alloc_new (w.setCell ⟨b, 1, none⟩ (.int .i64 (s + sg))) #[.string k, .int .i64 v] 30 0
    rw [← hW1] at this; simpa using this
  have p1 : W1.cell? ⟨w.heap.size, 1, none⟩ = some (.int .i64 v) := by
    have := World.cell?_alloc_new (w.setCell ⟨b, 1, none⟩ (.int .i64 (s + sg))) #[.string k, .int .i64 v] 30 1
    rw [← hW1] at this; simpa using this
  have hF1 : Fr (fun i => i = b) w W1 := by rw [hW1]; exact ((Fr.refl (fun i => i = b) w).setCell (.inl rfl) _).alloc _
  have hb1 : b < W1.heap.size := by have := hF1.size; omega
  have q2 : W1.cell? ⟨b, 2, none⟩ = some (.int .i64 (wr y)) := node_cell n1 2
  have g2 := node_frozen n1 2
  have hwl : w.heap.size < W1.heap.size := by rw [hW1]; simp
  clear hW1 c1 f1
  go_cut [] (fun wx => wx.heap[b]? = some (nodeObj g (s + sg) (wr (y + sg * k.size)) ev kv) ∧ Fr (fun i => i = b) W1 wx)
  case first =>
    rcases hsg with rfl | rfl
    all_goals
      go_region_with (go_at_call 37; refine (heb _).mono ?_; rintro e w'' ⟨rfl, rfl⟩; unfold ebs)
      all_goals go_wp2_with fail
      all_goals go_meet
      all_goals
        case rel =>
          refine ⟨?_, ?_⟩
          · refine heap_alloc' (heap_alloc' ?_)
            refine (node_set2 n1 _).trans ?_
            congr 2
            ((try unfold wr); (try simp only [IntKind.wrap_i64]); (try unfold RowKit.wrap64); omega)
          · exact ((((Fr.refl (fun i => i = b) W1).setCell (.inl rfl) _).alloc _).alloc _).drew
  case rest =>
    obtain ⟨n2, hF2⟩ := hcut
    rename World => W2
    clear q2 g2 p0 p1 heb
    cases kid with
    | none =>
      obtain ⟨rfl, rfl⟩ := h0 rfl
      go_wp2_with fail
      go_end0
      exact ⟨rfl, by simpa using n2, hF1.trans hF2 (fun _ _ h => h)⟩
    | some c =>
      obtain ⟨⟨hks1, hks2⟩, hcb, g', ev', kv', hc⟩ := hkid c rfl
      have hF02 : Fr (fun i => i = b) w W2 := hF1.trans hF2 (fun _ _ h => h)
      have hc2 : W2.heap[c]? = some (nodeObj g' ks (wr ky) ev' kv') := (hF02.block c (Array.getElem?_eq_some_iff.1 hc).1 hcb).trans hc
      have q1 : W2.cell? ⟨b, 1, none⟩ = some (.int .i64 (s + sg)) := node_cell n2 1
      have r1 : W2.cell? ⟨c, 1, none⟩ = some (.int .i64 ks) := node_cell hc2 1
      have g1 := node_frozen n2 1
      obtain ⟨mk, hmk⟩ : ∃ mk : Int, mk = sg * ks := ⟨_, rfl⟩
      have hmkb : -1152921504606846976 ≤ mk ∧ mk ≤ 1152921504606846976 := by rw [hmk, Hmul.out]; split <;> omega
      go_upto_region 4 with fail
      go_cut [] (fun wx => wx.heap[b]? = some (nodeObj g (s + sg + sg * ks) (wr (y + sg * k.size)) ev kv) ∧ Fr (fun i => i = b) W2 wx)
      case first =>
        rcases hsg with rfl | rfl
        all_goals
          go_region
          all_goals go_wp2_with fail
          all_goals go_meet
          all_goals
            case rel =>
              refine ⟨?_, ?_⟩
              · refine (node_set1 n2 _).trans ?_
                congr 2
                ((try unfold wr); (try simp only [IntKind.wrap_i64]); (try unfold RowKit.wrap64); omega)
              · exact ((Fr.refl (fun i => i = b) W2).setCell (.inl rfl) _).drew
      case rest =>
        obtain ⟨n3, hF3⟩ := hcut
        rename World => W3
        have hF03 : Fr (fun i => i = b) w W3 := hF02.trans hF3 (fun _ _ h => h)
        have hc3 : W3.heap[c]? = some (nodeObj g' ks (wr ky) ev' kv') := (hF03.block c (Array.getElem?_eq_some_iff.1 hc).1 hcb).trans hc
        have q2 : W3.cell? ⟨b, 2, none⟩ = some (.int .i64 (wr (y + sg * k.size))) := node_cell n3 2
        have r2 : W3.cell? ⟨c, 2, none⟩ = some (.int .i64 (wr ky)) := node_cell hc3 2
        have g2 := node_frozen n3 2
        clear q1 r1 g1
        rcases hsg with rfl | rfl
        all_goals
          go_wp2_with fail
          go_region
          all_goals go_wp2_with fail
          all_goals go_end0
          all_goals
            refine ⟨rfl, ?_, (hF03.setCell (.inl rfl) _).drew⟩
            refine (node_set2 n3 _).trans ?_
            congr 2
            all_goals
              ((try unfold wr); (try simp only [IntKind.wrap_i64]); (try unfold RowKit.wrap64); omega)
end Go.Proofs.Ybulkbrzk.BT
