/-
  slices.Insert of one element, at the entries (two cells each) and at the kids (one).
-/
import Derived.Test.YbulkbrzkSearch
import Derived.Shelf.Spec.SlicesInsertGrow
import Derived.Laws.CopyOwn
namespace Go.Proofs.Ybulkbrzk.BT
open Go Go.RowKit
set_option linter.unusedVariables false

/-- copy, the elements of whatever size, into a row that is known whole -/
theorem copy_row {P : Program} (w : World) (dT sT ty elem : TypeId) (sz : Nat) (g o dLen dCap : Nat) (a : Addr) (sLen sCap : Nat) (cur : Array Value) (t : TypeId) (cs : List Value)
    (hu : P.underlying dT = some (.slice elem)) (hs : (P.info? elem).map (·.size) = some sz)
    (hg : w.heap[g]? = some (.cells cur t (0, 0))) (hn : cs.length = Nat.min sLen dLen * sz)
    (hsrc : ∀ j v, cs[j]? = some v → w.cell? (a.add j) = some v) (hfit : o + cs.length ≤ cur.size) (h1 : ∀ v ∈ cs, v.oneCell' = true) :
    (Builtin.copy_ #[dT, sT] ty #[.slice (some ⟨g, o, none⟩) dLen dCap, .slice (some a) sLen sCap]).run P w =
      .ok (goInt (Nat.min sLen dLen)) (w.setRow g (cur.toList.take o ++ cs ++ cur.toList.drop (o + cs.length)).toArray) := by
  have hl := run_loadCells_list (P := P) w a cs hsrc
  have hst := run_storeCells_at P g o t cs 0 cur w hg (by simpa using hfit) h1
  cases hq : P.info? elem with
  | none => simp [hq] at hs
  | some i =>
    have hi : i.size = sz := by simpa [hq] using hs
    simp [Builtin.copy_, run_underlying hu, Builtin.lenOf, Builtin.firstCells, sizeOf, typeInfo, hq, hi, ← hn, hl, hst]

theorem size30 : (Yba.prog.info? 30).map (·.size) = some 2 := by kernel_rfl
theorem sizeOf30 (w : World) : (Go.sizeOf 30).run Yba.prog w = .ok 2 w := by kernel_rfl

theorem setRow_same {w : World} {g : Nat} {c : Array Value} {t : TypeId} (h : w.heap[g]? = some (.cells c t (0, 0))) (c' : Array Value) : (w.setRow g c').heap[g]? = some (.cells c' t (0, 0)) := setRow_heap w g c c' t _ h

/-- the row behind the two copies -/
theorem shift_row (cur c cs cur1 cur2 : List Value) (p q sz : Nat) (hsz : c.length = sz) (hpq : p ≤ q) (hl : q + sz ≤ cur.length) (hcs : cs = (cur.take q).drop p)
    (h1 : cur1 = cur.take (p + sz) ++ cs ++ cur.drop (p + sz + cs.length)) (h2 : cur2 = cur1.take p ++ c ++ cur1.drop (p + c.length)) :
    cur2.length = cur.length ∧ cur2.take (q + sz) = (cur.take q).take p ++ c ++ (cur.take q).drop p := by
  have lcs : cs.length = q - p := by rw [hcs, List.length_drop, List.length_take, Nat.min_eq_left (by omega)]
  have l1 : (cur.take (p + sz)).length = p + sz := by rw [List.length_take, Nat.min_eq_left (by omega)]
  have lp : (cur.take p).length = p := by rw [List.length_take, Nat.min_eq_left (by omega)]
  have t1 : cur1.take p = cur.take p := by
    rw [h1, List.take_append_of_le_length (by rw [List.length_append, l1]; omega), List.take_append_of_le_length (by omega), List.take_take, Nat.min_eq_left (by omega)]
  have d1 : cur1.drop (p + c.length) = cs ++ cur.drop (q + sz) := by
    rw [h1, List.append_assoc, List.drop_left' (by rw [l1, hsz]), lcs, show p + sz + (q - p) = q + sz by omega]
  have e2 : cur2 = (cur.take p ++ c ++ cs) ++ cur.drop (q + sz) := by rw [h2, t1, d1, List.append_assoc, List.append_assoc, List.append_assoc]
  have l2 : (cur.take p ++ c ++ cs).length = q + sz := by rw [List.length_append, List.length_append, lp, hsz, lcs]; omega
  constructor
  · rw [e2, List.length_append, l2, List.length_drop]; omega
  · rw [e2, List.take_left' l2, ← hcs, List.take_take, Nat.min_eq_left hpq]

set_option maxRecDepth 100000 in
set_option maxHeartbeats 4000000 in
theorem insE_shift (eb n cap i vb : Nat) (cur : Array Value) (c : List Value) (w : World) (hg : w.heap[eb]? = some (.cells cur 30 (0, 0))) (hsz : cur.size = cap * 2) (hroom : n + 1 ≤ cap) (hcap : cap ≤ 9223372036854775807) (hv : w.heap[vb]? = some (.cells c.toArray 30 (0, 0))) (hcl : c.length = 2) (h1v : ∀ v ∈ c, v.oneCell' = true)
    (h1c : ∀ v ∈ cur.toList.take (n * 2), v.oneCell' = true) (hvb : vb ≠ eb) (hi : i < n) (hnl : n ≤ 4096) :
    Calls Yba.prog 39 #[.slice (some ⟨eb, 0, none⟩) n cap, .int .i64 i, .slice (some ⟨vb, 0, none⟩) 1 1] w fun e w' => e = .returned (.slice (some ⟨eb, 0, none⟩) (n + 1) cap) ∧ Fr (fun j => j = eb) w w' ∧
      ∃ cur' : Array Value, w'.heap[eb]? = some (.cells cur' 30 (0, 0)) ∧ cur'.size = cap * 2 ∧ cur'.toList.take ((n + 1) * 2) = (cur.toList.take (n * 2)).take (i * 2) ++ c ++ (cur.toList.take (n * 2)).drop (i * 2) := by
  have hz2 : ¬ ((i : Int) = (n : Int)) := by omega
  have hov : ∀ (W : World) lb cb, W.heap = w.heap → (callFunc 60 #[.slice (some ⟨vb, 0, none⟩) 1 1, .slice (some ⟨eb, (i + 1) * 2, none⟩) lb cb]).run Yba.prog W = .ok (.value (.bool false)) W := fun W lb cb hW => by
    rw [run_callFunc_extern Yba.func60 (by kernel_rfl) (by kernel_rfl) (by kernel_rfl) (e := Extern.SlicesOverlaps.overlaps #[27, 27] #[4]) (by kernel_rfl),
      Lib.run_overlaps_apart W 27 4 30 Yba.underlying27 2 sizeOf30 ⟨vb, 0, none⟩ ⟨eb, (i + 1) * 2, none⟩ 1 1 lb cb hvb 30 30 2 (cap * 2) (by simp [World.shape?, hW, hv, hcl]) (by simp [World.shape?, hW, hg, hsz]) (by omega) (by simp [World.frozen?, hW, hv]) (by simp [World.frozen?, hW, hv])]
    rfl
  have hov' := fun lb cb => hov w lb cb rfl
  have hb2 : ¬ (cap = i + 1) := by omega
  have hb4 : ¬ (cap = i) := by omega
  have hw1 : IntKind.i64.wrap ((i : Int) + 1) = (i : Int) + 1 := by rw [IntKind.wrap_i64]; omega
  have hb1 : (0 : Int) ≤ (i : Int) + 1 := by omega
  have hin : i ≤ n := by omega
  have htn : ((i : Int) + 1).toNat = i + 1 := by omega
  have hb3 : (i : Int) ≤ (n : Int) + 1 := by omega
  have hb5 : i ≤ n + 1 := by omega
  obtain ⟨cs, hcs⟩ : ∃ cs, cs = (cur.toList.take (n * 2)).drop (i * 2) := ⟨_, rfl⟩
  have hcsl : cs.length = (n - i) * 2 := by rw [hcs]; simp; omega
  obtain ⟨cur1, hcur1⟩ : ∃ cur1 : Array Value, cur1 = (cur.toList.take ((i + 1) * 2) ++ cs ++ cur.toList.drop ((i + 1) * 2 + cs.length)).toArray := ⟨_, rfl⟩
  have hlen1 : cur1.size = cap * 2 := by rw [hcur1]; simp; omega
  obtain ⟨W1, hW1⟩ : ∃ W1, W1 = w.drew.setRow eb cur1 := ⟨_, rfl⟩
  have hcp1 : ∀ ty dc sc, (Builtin.copy_ #[27, 27] ty #[.slice (some ⟨eb, (i + 1) * 2, none⟩) (n - i) dc, .slice (some ⟨eb, i * 2, none⟩) (n + 1 - i) sc]).run Yba.prog w.drew = .ok (goInt (Nat.min (n + 1 - i) (n - i))) W1 := fun ty dc sc => by
    have := copy_row (P := Yba.prog) w.drew 27 27 ty 30 2 eb ((i + 1) * 2) (n - i) dc ⟨eb, i * 2, none⟩ (n + 1 - i) sc cur 30 cs Yba.underlying27 size30 hg (by rw [hcsl]; simp only [Nat.min_def]; split <;> omega)
      (fun j v hj => by
        rw [show (⟨eb, i * 2, none⟩ : Addr).add j = ⟨eb, i * 2 + j, none⟩ from by unfold Addr.add; split <;> simp_all]
        rw [hcs, List.getElem?_drop, List.getElem?_take] at hj
        split at hj
        · have : w.drew.cell? ⟨eb, i * 2 + j, none⟩ = cur[i * 2 + j]? := by show w.cell? _ = _; simp [World.cell?, hg]
          rw [this]; simpa using hj
        · cases hj) (by omega) (fun v hv => h1c v (by rw [hcs] at hv; exact List.mem_of_mem_drop hv))
    rw [this, hW1, hcur1]
  have hg1 : W1.heap[eb]? = some (.cells cur1 30 (0, 0)) := by rw [hW1]; exact setRow_same (w := w.drew) hg _
  have hv1 : W1.heap[vb]? = some (.cells c.toArray 30 (0, 0)) := by rw [hW1]; exact (setRow_other w.drew eb vb _ hvb).trans hv
  obtain ⟨cur2, hcur2⟩ : ∃ cur2 : Array Value, cur2 = (cur1.toList.take (i * 2) ++ c ++ cur1.toList.drop (i * 2 + c.length)).toArray := ⟨_, rfl⟩
  have hcp2 : ∀ ty dc, (Builtin.copy_ #[27, 27] ty #[.slice (some ⟨eb, i * 2, none⟩) (n + 1 - i) dc, .slice (some ⟨vb, 0, none⟩) 1 1]).run Yba.prog W1 = .ok (goInt (Nat.min 1 (n + 1 - i))) (W1.setRow eb cur2) := fun ty dc => by
    have := copy_row (P := Yba.prog) W1 27 27 ty 30 2 eb (i * 2) (n + 1 - i) dc ⟨vb, 0, none⟩ 1 1 cur1 30 c Yba.underlying27 size30 hg1 (by rw [hcl]; simp only [Nat.min_def]; split <;> omega)
      (fun j v hj => by
        rw [show (⟨vb, 0, none⟩ : Addr).add j = ⟨vb, j, none⟩ from by unfold Addr.add; split <;> simp_all]
        simpa [World.cell?, hv1] using hj) (by omega) h1v
    rw [this, hcur2]
  have hFin : Fr (fun j => j = eb) w (W1.setRow eb cur2) := by
    rw [hW1]
    exact ⟨rfl, rfl, rfl, by show w.heap.size ≤ ((w.drew.setRow eb cur1).setRow eb cur2).heap.size; simp only [World.setRow, Array.size_modify]; exact Nat.le_refl _, fun j _ hj => (setRow_other _ eb j _ hj).trans (setRow_other w.drew eb j _ hj)⟩
  have Hend := Lib.hid (And.intro hFin (And.intro (setRow_same hg1 cur2) (And.intro hcur2 (And.intro hcur1 hcs))))
  clear hFin hcur2 hcur1 hcs hW1 hg1 hv1 hov h1c h1v
  go_enter Yba.func39, Yba.ntmps39
  go_wp2_with (simp only [hov'])
  go_region_law (refine step_copy_runI rfl _ _ 27 27 rfl _ _ (by simp [Act.eval, Act.put]) (by simp [Act.eval, Act.put]) (hcp1 _ _ _) ?_)
  go_wp2_with (at_builtin; refine wpList_copy_runI _ rfl _ _ 27 27 rfl _ _ rfl rfl (hcp2 _ _) ?_)
  go_ret
  obtain ⟨h1, h2, h3, h4, h5⟩ := Hend.out
  have hrow := shift_row cur.toList c cs cur1.toList cur2.toList (i * 2) (n * 2) 2 hcl (by omega) (by simp; omega) h5 (by rw [h4, show (i + 1) * 2 = i * 2 + 2 by omega]) (by rw [h3])
  exact ⟨rfl, h1, _, h2, by simpa [hsz] using hrow.1, by rw [show (n + 1) * 2 = n * 2 + 2 by omega]; exact hrow.2⟩
end Go.Proofs.Ybulkbrzk.BT
