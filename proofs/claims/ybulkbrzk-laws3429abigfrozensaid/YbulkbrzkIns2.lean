/-
  slices.Insert at the entries: behind the last, and where there is no room.
-/
import Derived.Test.YbulkbrzkIns
import Derived.Maps.AppendAt
namespace Go.Proofs.Ybulkbrzk.BT
open Go Go.RowKit
set_option linter.unusedVariables false

set_option maxRecDepth 100000 in
set_option maxHeartbeats 4000000 in
theorem insE_end (eb n cap vb : Nat) (xs c : List Value) (w : World) (hown : w.ownsRow 0 30 2 (.slice (some ⟨eb, 0, none⟩) n cap) n xs) (hv : w.heap[vb]? = some (.cells c.toArray 30 (0, 0))) (hcl : c.length = 2) (h1v : ∀ v ∈ c, v.oneCell' = true) (hnl : n ≤ 4096) :
    Calls Yba.prog 39 #[.slice (some ⟨eb, 0, none⟩) n cap, .int .i64 n, .slice (some ⟨vb, 0, none⟩) 1 1] w fun e w' => ∃ v', e = .returned v' ∧ w'.ownsRow 0 30 2 v' (n + 1) (xs ++ c) ∧ (v'.ownBlock = some eb ∨ v'.ownBlock = some w.heap.size) ∧ Fr (fun j => j = eb) w w' := by
  obtain ⟨i, hi, hz0, hz1, hz2⟩ := info_parts info30
  have hnews : ∀ j u, c[j]? = some u → w.cell? ((⟨vb, 0, none⟩ : Addr).add j) = some u := fun j u hu => by
    rw [show (⟨vb, 0, none⟩ : Addr).add j = ⟨vb, j, none⟩ from by unfold Addr.add; split <;> simp_all]
    simpa [World.cell?, hv] using hu
  have Hi := Lib.hid (And.intro hi (And.intro hz0 (And.intro hz1 (And.intro hz2 (And.intro hown (And.intro hnews h1v))))))
  have hee : ((n : Int) == (n : Int)) = true := by simp
  have hcap : n ≤ cap := by
    rcases hown.2 with ⟨h', _⟩ | ⟨g, cap', cur, e', hb, hg, hn, _⟩
    · cases h'
    · simp at e'; omega
  clear hi hz0 hz1 hz2 hown hnews h1v
  by_cases hcn : cap = n
  all_goals
    go_enter Yba.func39, Yba.ntmps39
    go_wp2_with (at_builtin; refine wpList_append_own_at _ rfl _ _ 27 rfl 0 30 i _ 2 24 Yba.underlying27 Hi.out.1 Hi.out.2.1 Hi.out.2.2.1 Hi.out.2.2.2.1 rfl (by decide) (.slice (some ⟨eb, 0, none⟩) n cap) n xs rfl Hi.out.2.2.2.2.1 ⟨vb, 0, none⟩ 1 1 c rfl (by omega) Hi.out.2.2.2.2.2.1 Hi.out.2.2.2.2.2.2 (by unfold maxLen; omega) (by omega) (by omega) ?_
                 intro v' w1 hown' hgrow hnil hat)
    go_ret
    exact ⟨v', rfl, hown', hat, (Fr.refl (fun j => j = eb) w).grown hgrow (fun r h => .inl (by simp [Value.ownBlock] at h; exact h.symm))⟩

/-- the row of the growing Insert -/
theorem grow_row (row c cs row1 row2 : List Value) (p q sz : Nat) (hc : c.length = sz) (hl : q + sz ≤ row.length) (hpq : p ≤ q) (hcs : cs.length = q - p)
    (h1 : row1 = row.take p ++ c ++ row.drop (p + c.length)) (h2 : row2 = row1.take (p + sz) ++ cs ++ row1.drop (p + sz + cs.length)) :
    row2.length = row.length ∧ row2.take (q + sz) = row.take p ++ c ++ cs := by
  have lp : (row.take p).length = p := by rw [List.length_take, Nat.min_eq_left (by omega)]
  have l1 : (row.take p ++ c).length = p + sz := by rw [List.length_append, lp, hc]
  have t1 : row1.take (p + sz) = row.take p ++ c := by rw [h1, List.take_left' l1]
  have ln1 : row1.length = row.length := by rw [h1, List.length_append, l1, List.length_drop, hc]; omega
  have l2 : (row.take p ++ c ++ cs).length = q + sz := by rw [List.length_append, l1, hcs]; omega
  constructor
  · rw [h2, t1, List.length_append, l2, List.length_drop, ln1, hcs]; omega
  · rw [h2, t1, List.take_left' l2]

set_option maxRecDepth 100000 in
set_option maxHeartbeats 4000000 in
theorem insE_grow (eb n cap i vb : Nat) (xs c : List Value) (w : World) (hown : w.ownsRow 0 30 2 (.slice (some ⟨eb, 0, none⟩) n cap) n xs) (hroom : cap = n) (hv : w.heap[vb]? = some (.cells c.toArray 30 (0, 0))) (hcl : c.length = 2) (h1v : ∀ v ∈ c, v.oneCell' = true)
    (h1c : ∀ v ∈ xs, v.oneCell' = true) (hvb : vb ≠ eb) (hi : i < n) (hnl : n ≤ 4096) :
    Calls Yba.prog 39 #[.slice (some ⟨eb, 0, none⟩) n cap, .int .i64 i, .slice (some ⟨vb, 0, none⟩) 1 1] w fun e w' => ∃ v', e = .returned v' ∧ w'.ownsRow 0 30 2 v' (n + 1) (xs.take (i * 2) ++ c ++ xs.drop (i * 2)) ∧ v'.ownBlock = some w.heap.size ∧ Fr (fun _ => False) w w' := by
  obtain ⟨i0, hi0, hz0, hzs, hzb⟩ := info_parts info30
  obtain ⟨cur, hg, hcsz, hcx⟩ : ∃ cur : Array Value, w.heap[eb]? = some (.cells cur 30 (0, 0)) ∧ cur.size = cap * 2 ∧ cur.toList.take (n * 2) = xs := by
    rcases hown.2 with ⟨h', _⟩ | ⟨g, cap', cur, e', hb, hg, hn, hm, hs, ht⟩
    · cases h'
    · simp at e'
      obtain ⟨rfl, rfl⟩ := e'
      exact ⟨cur, hg, hs, ht⟩
  have hxl := hown.1
  have hebw : eb < w.heap.size := (Array.getElem?_eq_some_iff.1 hg).1
  have hvbw : vb < w.heap.size := (Array.getElem?_eq_some_iff.1 hv).1
  have hxc : ∀ j v, xs[j]? = some v → w.cell? ⟨eb, j, none⟩ = some v := fun j v hj => by
    rw [← hcx, List.getElem?_take] at hj
    split at hj
    · simpa [World.cell?, hg] using hj
    · cases hj
  have hadd : ∀ b j, (⟨b, 0, none⟩ : Addr).add j = ⟨b, j, none⟩ := fun b j => by unfold Addr.add; split <;> simp_all
  have hadd' : ∀ b o j, (⟨b, o, none⟩ : Addr).add j = ⟨b, o + j, none⟩ := fun b o j => by unfold Addr.add; split <;> simp_all
  obtain ⟨G, hG⟩ : ∃ G, G = grownCap w (n + 1) cap 30 := ⟨_, rfl⟩
  obtain ⟨ROW, hROW⟩ : ∃ ROW : Array Value, ROW = (xs.take (i * 2)).toArray ++ Builtin.zeroCells (Value.agg #[.string ⟨#[]⟩, .int .i64 0]).cells (n + 1 - i) ++ Builtin.zeroCells (Value.agg #[.string ⟨#[]⟩, .int .i64 0]).cells (G - (n + 1)) := ⟨_, rfl⟩
  obtain ⟨W1, hW1⟩ : ∃ W1, W1 = w.drew.alloc (.cells ROW 30) := ⟨_, rfl⟩
  obtain ⟨nb, hnb⟩ : ∃ nb, nb = w.heap.size := ⟨_, rfl⟩
  have hkk : (n : Int) + 1 - (i : Int) = ((n + 1 - i : Nat) : Int) := by omega
  have hik : i + (n + 1 - i) = n + 1 := by omega
  have hold : (Builtin.firstCells i0.size i (.slice (some ⟨eb, 0, none⟩) i cap)).run Yba.prog w.drew = .ok (xs.take (i * 2)).toArray w.drew := by
    rw [hzs]
    exact run_firstCells_some w.drew 2 i ⟨eb, 0, none⟩ i cap (xs.take (i * 2)) (by rw [List.length_take, hxl]; omega) (fun j v hj => by
      rw [hadd]
      rw [List.getElem?_take] at hj
      split at hj
      · exact hxc j v hj
      · cases hj)
  have hrz : ∀ ty, (Builtin.append_ #[27, 3] ty #[.slice (some ⟨eb, 0, none⟩) i cap, .int .i64 ((n : Int) + 1 - (i : Int))]).run Yba.prog w = .ok (.slice (some ⟨nb, 0, none⟩) (n + 1) G) W1 := fun ty => by
    have h := Lib.run_append_grow_zeros w 27 3 ty 30 i0 _ .i64 .i64 Yba.underlying27 Yba.underlying3 hi0 hz0 (some ⟨eb, 0, none⟩) i cap (xs.take (i * 2)) hold (n + 1 - i) (by omega) (by omega) (by omega) (by omega) (by rw [hzb]; omega) (by rw [hzb, hik]; exact growslice_fits (by omega) (by omega))
    rw [hik] at h
    rw [hkk, h, hW1, hROW, hG, hnb]
  have hGn : n + 1 ≤ G := by rw [hG]; exact grownCap_ge w _ _ _
  have hGm : G ≤ maxLen := by rw [hG]; exact grownCap_le_maxLen w _ _ _ (by unfold maxLen; omega)
  have hRl : ROW.size = G * 2 := by
    rw [hROW]
    simp [Builtin.zeroCells, Value.cells, List.length_take, hxl]
    omega
  have hg1 : W1.heap[nb]? = some (.cells ROW 30 (0, 0)) := by rw [hW1, hnb]; show (w.heap.push _)[w.heap.size]? = _; simp
  have hv1 : W1.heap[vb]? = some (.cells c.toArray 30 (0, 0)) := by rw [hW1]; exact (Below.heap_alloc w.drew _ _ hvbw).trans hv
  have he1 : W1.heap[eb]? = some (.cells cur 30 (0, 0)) := by rw [hW1]; exact (Below.heap_alloc w.drew _ _ hebw).trans hg
  obtain ⟨row1, hrow1⟩ : ∃ row1 : Array Value, row1 = (ROW.toList.take (i * 2) ++ c ++ ROW.toList.drop (i * 2 + c.length)).toArray := ⟨_, rfl⟩
  have hr1l : row1.size = G * 2 := by rw [hrow1]; simp; omega
  obtain ⟨W2, hW2⟩ : ∃ W2, W2 = W1.setRow nb row1 := ⟨_, rfl⟩
  have hcpA : ∀ ty dc, (Builtin.copy_ #[27, 27] ty #[.slice (some ⟨nb, i * 2, none⟩) (n + 1 - i) dc, .slice (some ⟨vb, 0, none⟩) 1 1]).run Yba.prog W1 = .ok (goInt (Nat.min 1 (n + 1 - i))) W2 := fun ty dc => by
    have := copy_row (P := Yba.prog) W1 27 27 ty 30 2 nb (i * 2) (n + 1 - i) dc ⟨vb, 0, none⟩ 1 1 ROW 30 c Yba.underlying27 size30 hg1 (by rw [hcl]; simp only [Nat.min_def]; split <;> omega)
      (fun j v hj => by rw [hadd]; simpa [World.cell?, hv1] using hj) (by omega) h1v
    rw [this, hW2, hrow1]
  have hg2 : W2.heap[nb]? = some (.cells row1 30 (0, 0)) := by rw [hW2]; exact setRow_same hg1 _
  have he2 : W2.heap[eb]? = some (.cells cur 30 (0, 0)) := by rw [hW2]; exact (setRow_other W1 nb eb _ (by omega)).trans he1
  obtain ⟨cs, hcs⟩ : ∃ cs, cs = xs.drop (i * 2) := ⟨_, rfl⟩
  have hcsl : cs.length = (n - i) * 2 := by rw [hcs, List.length_drop, hxl]; omega
  obtain ⟨row2, hrow2⟩ : ∃ row2 : Array Value, row2 = (row1.toList.take ((i + 1) * 2) ++ cs ++ row1.toList.drop ((i + 1) * 2 + cs.length)).toArray := ⟨_, rfl⟩
  have hcpB : ∀ ty dc sc, (Builtin.copy_ #[27, 27] ty #[.slice (some ⟨nb, (i + 1) * 2, none⟩) (n - i) dc, .slice (some ⟨eb, i * 2, none⟩) (n - i) sc]).run Yba.prog W2.drew = .ok (goInt (Nat.min (n - i) (n - i))) (W2.drew.setRow nb row2) := fun ty dc sc => by
    have := copy_row (P := Yba.prog) W2.drew 27 27 ty 30 2 nb ((i + 1) * 2) (n - i) dc ⟨eb, i * 2, none⟩ (n - i) sc row1 30 cs Yba.underlying27 size30 hg2 (by rw [hcsl]; simp only [Nat.min_def]; split <;> omega)
      (fun j v hj => by
        rw [hadd']
        rw [hcs, List.getElem?_drop, ← hcx, List.getElem?_take] at hj
        split at hj
        · show W2.cell? _ = _
          simpa [World.cell?, he2] using hj
        · cases hj) (by omega) (fun v hv => h1c v (by rw [hcs] at hv; exact List.mem_of_mem_drop hv))
    rw [this, hrow2]
  have hFin : Fr (fun _ => False) w (W2.drew.setRow nb row2) := by
    rw [hW2, hW1]
    refine ⟨rfl, rfl, rfl, ?_, fun j hj _ => ?_⟩
    · show w.heap.size ≤ (((w.drew.alloc (.cells ROW 30)).setRow nb row1).drew.setRow nb row2).heap.size
      simp only [World.setRow, Array.size_modify]
      show w.heap.size ≤ ((w.drew.alloc (.cells ROW 30)).heap.modify nb _).size
      rw [Array.size_modify]
      exact Nat.le_trans (Nat.le_succ _) (Nat.le_of_eq (World.size_alloc w.drew _).symm)
    · exact (setRow_other _ nb j _ (by omega)).trans ((setRow_other _ nb j _ (by omega)).trans (Below.heap_alloc w.drew _ _ hj))
  have hends : (W2.drew.setRow nb row2).heap[nb]? = some (.cells row2 30 (0, 0)) := setRow_same (w := W2.drew) hg2 _
  have hgr := grow_row ROW.toList c cs row1.toList row2.toList (i * 2) (n * 2) 2 hcl (by simp; omega) (by omega) (by rw [hcsl]; omega) (by rw [hrow1]) (by rw [hrow2, show (i + 1) * 2 = i * 2 + 2 by omega])
  have htk : ROW.toList.take (i * 2) = xs.take (i * 2) := by
    rw [hROW]
    simp only [Array.toList_append, List.append_assoc]
    exact List.take_left' (by simp [List.length_take, hxl]; omega)
  have hw1 : IntKind.i64.wrap ((i : Int) + 1) = (i : Int) + 1 := by rw [IntKind.wrap_i64]; omega
  have hb1 : (0 : Int) ≤ (i : Int) + 1 := by omega
  have hin : i ≤ n := by omega
  have htn : ((i : Int) + 1).toNat = i + 1 := by omega
  have hb3 : (i : Int) ≤ (n : Int) := by omega
  have hz2' : ¬ ((i : Int) = (n : Int)) := by omega
  have hz3 : (cap : Int) < (n : Int) + 1 := by omega
  have hci : ¬ (cap = i) := by omega
  have hGi : ¬ (G = i) := by omega
  have hGi1 : ¬ (G = i + 1) := by omega
  have hG63 : G ≤ 9223372036854775807 := by unfold maxLen at hGm; omega
  have Hend := Lib.hid (And.intro hFin (And.intro hends (And.intro hgr (And.intro htk (And.intro hcs (And.intro hGm hr1l))))))
  have Hnb := Lib.hid hnb
  have Hrl := Lib.hid hRl
  clear hFin hends hgr htk hcs hROW hW1 hW2 hG hrow1 hrow2 hold hnb hg1 hg2 hv1 he1 he2 hxc hadd hadd' hRl hkk hik hGm hr1l hcx h1c h1v hown hi0 hz0 hzs hzb
  have hr1 : cap ≤ n := by omega
  have hr2 : n ≤ cap := by omega
  clear hroom
  go_enter Yba.func39, Yba.ntmps39
  go_wp2_with (first
    | (at_builtin; refine Lib.wpList_append_run _ rfl _ _ _ _ rfl _ _ rfl rfl _ _ (hrz _) ?_)
    | (at_builtin; refine wpList_copy_runI _ rfl _ _ 27 27 rfl _ _ rfl rfl (hcpA _ _) ?_))
  go_region_law (refine step_copy_runI rfl _ _ 27 27 rfl _ _ (by simp [Act.eval, Act.put]) (by simp [Act.eval, Act.put]) (hcpB _ _ _) ?_)
  go_wp2
  go_ret
  obtain ⟨e1, e2, e3, e4, e5, e6, e7⟩ := Hend.out
  refine ⟨_, rfl, ⟨?_, .inr ⟨nb, G, row2, rfl, Nat.zero_le _, e2, hGn, e6, ?_, ?_⟩⟩, by simp [Value.ownBlock, Hnb.out], e1⟩
  · simp [hxl, hcl]; omega
  · have h9 := e3.1
    have h8 := Hrl.out
    simp at h9
    omega
  · rw [show (n + 1) * 2 = n * 2 + 2 by omega, e3.2, e4, e5]
end Go.Proofs.Ybulkbrzk.BT
