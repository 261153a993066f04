/-
  joinLevel: two trees of one height.
-/
import Derived.Test.YbulkbrzkHeight
namespace Go.Proofs.Ybulkbrzk.BT
open Go Go.RowKit
set_option linter.unusedVariables false

theorem results_tct {fn : Func} {q p u : Tmp} {ty : TypeId} (h : fn.results = #[.tmp q, .cell p ty, .tmp u]) (tmps : Array Value) (P : Program) (w : World) :
    (results fn tmps).run P w =
      ((asAddr (tmps.getD p undef)).run P w).andThen fun a w₁ => ((loadVar ty a).run P w₁).andThen fun v w₂ => .ok (.tuple #[tmps.getD q undef, v, tmps.getD u undef]) w₂ := by
  simp only [results, h]
  simp [Sem.run_bind, Result.andThen]

/-- what joinLevel does -/
def JoinPost (g N H : Nat) (F0 : List Nat) (flat0 : List E) (w : World) (e : Ending) (w' : World) : Prop :=
  ∃ (n : GT H) (uk : ByteArray) (uv : Int) (po : Option Addr), e = .returned (.tuple #[n.ptr, .agg #[.string uk, .int .i64 uv], .pointer po]) ∧ n.nd.gen = g ∧ Tree g N w' n ∧
    ((po = none ∧ n.flat = flat0 ∧ Grow F0 w w' (n.fp g)) ∨ (∃ s : GT H, po = some ⟨s.nd.b, 0, none⟩ ∧ s.nd.gen = g ∧ Tree g N w' s ∧ n.flat ++ (uk, uv) :: s.flat = flat0 ∧ Grow F0 w w' (n.fp g ++ s.fp g)))

set_option maxRecDepth 100000 in
set_option maxHeartbeats 16000000 in
theorem join_eq {h : Nat} (tb g N : Nat) (l r : GT h) (k : ByteArray) (v : Int) (w : World) (hg : w.cell? ⟨tb, 1, none⟩ = some (.int .u64 g)) (htb : tb ∉ l.fp g ++ r.fp g) (hN : N ≤ w.heap.size) (hl : Tree g N w l) (hr : Tree g N w r) (hnd : (l.fp g ++ r.fp g).Nodup) (hlen : (l.flat ++ (k, v) :: r.flat).length ≤ 4000) :
    Calls Yba.prog 53 #[.pointer (some ⟨tb, 0, none⟩), l.ptr, .int .i64 h, .agg #[.string k, .int .i64 v], r.ptr, .int .i64 h] w (JoinPost g N h (l.fp g ++ r.fp g) (l.flat ++ (k, v) :: r.flat) w) := by
  have htbl : tb < w.heap.size := World.block_lt_of_cell? _ _ hg
  obtain ⟨bx, hbx⟩ : ∃ bx, bx = w.heap.size := ⟨_, rfl⟩
  obtain ⟨W0, hW0⟩ : ∃ W0, W0 = (w.alloc (.cells #[.string k, .int .i64 v] 30)).alloc (.cells #[.string ⟨#[]⟩, .int .i64 0] 30) := ⟨_, rfl⟩
  have hF0 : Fr (fun _ => False) w W0 := by rw [hW0]; exact ((Fr.refl _ _).alloc _).alloc _
  have ox : W0.heap[bx]? = some (.cells #[.string k, .int .i64 v] 30 (0, 0)) := by
    rw [hW0, hbx]
    refine heap_alloc' ?_
    show (w.heap.push _)[w.heap.size]? = _
    simp
  obtain ⟨b13, hb13d⟩ : ∃ b13, b13 = bx + 1 := ⟨_, rfl⟩
  have o13 : W0.heap[b13]? = some (.cells #[.string ⟨#[]⟩, .int .i64 0] 30 (0, 0)) := by
    rw [hW0, hb13d, hbx]
    show ((w.heap.push _).push _)[w.heap.size + 1]? = _
    rw [Array.getElem?_push]
    simp
  have z0 : W0.heap.size = b13 + 1 := by rw [hW0, hb13d, hbx]; simp
  have hg0 : W0.cell? ⟨tb, 1, none⟩ = some (.int .u64 g) := (hF0.cell (p := ⟨tb, 1, none⟩) htbl (fun h => h)).trans hg
  have hnl := (List.nodup_append.1 hnd).1
  have hll : l.flat.length ≤ 4000 ∧ r.flat.length ≤ 4000 := by simp at hlen; omega
  have hown := own_tree tb g N l W0 hg0 (Nat.le_trans hN hF0.size) (hl.still hF0) hnl (by omega)
  have hfl0 := fun x hx => (hl.fp_lt x hx).2
  have hfr0 := fun x hx => (hr.fp_lt x hx).2
  have hlt0 : ∀ x, x ∈ l.fp g ++ r.fp g → x < w.heap.size := fun x hx => (List.mem_append.1 hx).elim (hfl0 x) (hfr0 x)
  have hbb : tb < bx ∧ bx < b13 ∧ w.heap.size ≤ bx ∧ N ≤ bx := by omega
  obtain ⟨hi, hhi⟩ : ∃ hi : Int, hi = h := ⟨_, rfl⟩
  rw [← hhi]
  have H0 := Lib.hid (And.intro hW0 (And.intro hbx (And.intro hb13d (And.intro ox (And.intro o13 (And.intro z0 (And.intro hg0 (And.intro hl (And.intro hr (And.intro hlt0 (And.intro hhi (And.intro htb (And.intro hnd (And.intro hlen hg))))))))))))))
  unfold GT.ptr at hown
  clear hW0 hbx hb13d ox o13 z0 hg0 hl hr hlt0 hnl hfl0 hfr0 hhi htb hnd hlen hg
  show Calls Yba.prog 53 #[.pointer (some ⟨tb, 0, none⟩), .pointer (some ⟨l.nd.b, 0, none⟩), .int .i64 hi, .agg #[.string k, .int .i64 v], .pointer (some ⟨r.nd.b, 0, none⟩), .int .i64 hi] w _
  go_enter Yba.func53, Yba.ntmps53
  go_upto_region 10 with fail
  have e13 : w.heap.size + 1 = b13 := by have := H0.out.2.1; have := H0.out.2.2.1; omega
  rw [← H0.out.1, e13, ← H0.out.2.1]
  clear e13
  go_upto_region 11 with (go_at_call 23; refine hown.mono ?_; rintro e W1 ⟨n', rfl, o1, o2, o3, o4, o5⟩)
  clear hown
  obtain ⟨hW0, hbx, hb13d, ox, o13, z0, hg0, hl, hr, hlt0, hhi, htb, hnd, hlen, hg⟩ := H0.out
  obtain ⟨t1, ht1⟩ : ∃ t1, t1 = l.withNd n' := ⟨_, rfl⟩
  rw [← ht1] at o3 o4
  have h1n : t1.nd = n' := by rw [ht1, GT.withNd_nd]
  have h1f : t1.flat = l.flat := by rw [ht1, GT.withNd_flat l n' o2]
  have h1p : t1.ptr = .pointer (some ⟨n'.b, 0, none⟩) := by unfold GT.ptr; rw [h1n]
  have h1g : t1.nd.gen = g := by rw [h1n]; exact o1
  have hF01 : Fr (fun _ => False) w W1 := hF0.trans o5 (fun _ _ h => h)
  have g1' : Grow (l.fp g ++ r.fp g) W0 W1 (t1.fp g ++ r.fp g) := by
    have := Grow.ctx (X := []) (Y := r.fp g) o4 (by simpa using hnd) (fun x hx => by
      rcases hx with hx | hx
      · cases hx
      · have := hlt0 x (List.mem_append.2 (.inr hx)); have := hF0.size; omega)
    simpa using this
  have g1 : Grow (l.fp g ++ r.fp g) w W1 (t1.fp g ++ r.fp g) := (Grow.still hF0 hlt0 hnd).trans g1'
  have hn13 : b13 ∉ t1.fp g ++ r.fp g := (g1'.out (fun hx => by have := hlt0 b13 hx; omega) (by omega)).1
  have hrw : Tree g N W1 r := hr.still hF01
  have ox1 := (o5.block bx (Array.getElem?_eq_some_iff.1 ox).1 (fun h => h)).trans ox
  have o131 := (o5.block b13 (Array.getElem?_eq_some_iff.1 o13).1 (fun h => h)).trans o13
  have x0 : W1.cell? ⟨bx, 0, none⟩ = some (.string k) := by simp [World.cell?, ox1]
  have x1 : W1.cell? ⟨bx, 1, none⟩ = some (.int .i64 v) := by simp [World.cell?, ox1]
  have hap := append_tree g N t1 r k v W1 o3 hrw (Nat.le_trans hN hF01.size) h1g g1.nd (by rw [h1f]; omega) (by omega)
  rw [h1p] at hap
  unfold GT.ptr at hap
  have H1 := Lib.hid (And.intro h1n (And.intro h1f (And.intro g1 (And.intro o131 (And.intro hg (And.intro htb (And.intro hlt0 (And.intro hlen (And.intro hb13d hn13)))))))))
  have b13w : b13 < W1.heap.size := (Array.getElem?_eq_some_iff.1 o131).1
  clear hW0 hbx hb13d ox o13 z0 hg0 hl hr hlt0 hhi htb hnd hlen hg ht1 h1n h1f h1p h1g hF01 g1 g1' hn13 hrw ox1 o131 o1 o2 o3 o4
  go_upto_region 21 with (go_at_call 69; refine hap.mono ?_; rintro e W ⟨T, rfl, u1, u2, u3, u4, u5⟩)
  clear hap x0 x1
  obtain ⟨h1n, h1f, g1, o131, hg, htb, hlt0, hlen, hb13d, hn13⟩ := H1.out
  have tT : Tree g N W T := u4
  have gT : T.nd.gen = g := u2
  have GT_ : Grow (l.fp g ++ r.fp g) w W (T.fp g) := g1.trans u5
  have fT : T.flat = l.flat ++ (k, v) :: r.flat := by rw [u3, h1f]
  have o13 := (u5.fr.block b13 b13w hn13).trans o131
  have hb13 : b13 ∉ T.fp g ∧ w.heap.size ≤ b13 := ⟨(u5.out hn13 b13w).1, by omega⟩
  have hgW : W.cell? ⟨tb, 1, none⟩ = some (.int .u64 g) := (GT_.fr.cell (p := ⟨tb, 1, none⟩) htbl htb).trans hg
  obtain ⟨pb, hpbd⟩ : ∃ pb, pb = n'.b := ⟨_, rfl⟩
  rw [← hpbd]
  have hpb : T.nd.b = pb := by rw [u1, h1n, hpbd]
  clear h1n h1f g1 o131 hg htb hlt0 hb13d u1 u2 u3 u4 u5 hn13 hpbd
  obtain ⟨ck, kvk, hkb, hke, _⟩ := tT.at
  rw [hpb] at hkb
  have c3 : W.cell? ⟨pb, 3, none⟩ = some (.slice (some ⟨T.nd.eb, 0, none⟩) T.nd.es.length ck) := node_cell hkb 3
  have hfl := tT.flat_len
  have hml : T.nd.es.length ≤ 4000 := by rw [fT] at hfl; omega
  obtain ⟨m, hm⟩ : ∃ m, m = T.nd.es.length := ⟨_, rfl⟩
  rw [← hm] at c3 hml
  have hNW : N ≤ W.heap.size := by have := GT_.fr.size; omega
  have hzW : w.heap.size ≤ W.heap.size := GT_.fr.size
  have b13l : b13 < W.heap.size := (Array.getElem?_eq_some_iff.1 o13).1
  have htbW : tb < W.heap.size := World.block_lt_of_cell? _ _ hgW
  have hTp : T.ptr = .pointer (some ⟨pb, 0, none⟩) := by unfold GT.ptr; rw [hpb]
  by_cases hm31 : 31 < m
  · have hsp := split_tree tb g N T W hgW hNW tT gT GT_.nd (by rw [fT]; omega) (by omega)
    rw [hTp] at hsp
    have HT := Lib.hid (And.intro tT (And.intro gT (And.intro GT_ (And.intro fT (And.intro o13 (And.intro hb13 (And.intro hTp (And.intro hm hpb))))))))
    have hm31' : (31 : Int) < (m : Int) := by omega
    clear tT gT GT_ fT o13 hb13 hTp hm hkb hke hfl hpb
    go_upto_region 23 with (go_at_call 24; refine hsp.mono ?_; rintro e Wa ⟨L, R, k2, v2, rfl, s1, s2, s3, s4, s5, s6, s7⟩)
    clear hsp c3
    obtain ⟨tT, gT, GT_, fT, o13, hb13, hTp, hm, hpb⟩ := HT.out
    have hLp : L.ptr = .pointer (some ⟨pb, 0, none⟩) := by unfold GT.ptr; rw [s1, hpb]
    obtain ⟨Wb, hWb⟩ : ∃ Wb, Wb = Wa.alloc (.cells #[.string k2, .int .i64 v2] 30) := ⟨_, rfl⟩
    obtain ⟨b23, hb23⟩ : ∃ b23, b23 = Wa.heap.size := ⟨_, rfl⟩
    rw [← hWb, ← hb23]
    have hFab : Fr (fun _ => False) Wa Wb := by rw [hWb]; exact (Fr.refl _ _).alloc _
    have o23 : Wb.heap[b23]? = some (.cells #[.string k2, .int .i64 v2] 30 (0, 0)) := by
      rw [hWb, hb23]
      show (Wa.heap.push _)[Wa.heap.size]? = _
      simp
    have ga := GT_.trans s7
    have oa13 := (s7.fr.block b13 b13l hb13.1).trans o13
    have ob13 := (hFab.block b13 (Array.getElem?_eq_some_iff.1 oa13).1 (fun h => h)).trans oa13
    have nb13 : b13 ∉ L.fp g ++ R.fp g := fun hx => by
      rcases s7.sub b13 hx with h | h
      · exact hb13.1 h
      · omega
    have p0 : Wb.cell? ⟨b23, 0, none⟩ = some (.string k2) := by simp [World.cell?, o23]
    have p1 : Wb.cell? ⟨b23, 1, none⟩ = some (.int .i64 v2) := by simp [World.cell?, o23]
    have p2 : Wb.cell? ⟨b13, 0, none⟩ = some (.string ⟨#[]⟩) := by simp [World.cell?, ob13]
    have p3 : Wb.cell? ⟨b13, 1, none⟩ = some (.int .i64 0) := by simp [World.cell?, ob13]
    have p4 : Wb.frozen? ⟨b13, 0, none⟩ = false := by simp [World.frozen?, ob13]
    have p5 : Wb.frozen? ⟨b13, 1, none⟩ = false := by simp [World.frozen?, ob13]
    have nb2 : b13 < b23 := by have := (Array.getElem?_eq_some_iff.1 oa13).1; omega
    have HB := Lib.hid (And.intro ga (And.intro s1 (And.intro s2 (And.intro s3 (And.intro s4 (And.intro s5 (And.intro s6 (And.intro hFab (And.intro nb13 (And.intro fT (And.intro hLp hb13)))))))))))
    clear tT gT GT_ fT o13 hb13 hTp hm hWb hb23 hFab o23 ga oa13 ob13 nb13 hLp s1 s2 s3 s4 s5 s6 s7 hpb
    go_region
    all_goals go_wp2_with fail
    all_goals (try simp only [Exit.inBlock, Exit.then])
    all_goals
      refine bodyPost_ret (v := .tuple #[.pointer (some ⟨pb, 0, none⟩), .agg #[.string k2, .int .i64 v2], R.ptr]) ?_ rfl ?_
      · rw [results_tct rfl]
        go_simp
      · obtain ⟨ga, s1, s2, s3, s4, s5, s6, hFab, nb13, fT, hLp, hb13⟩ := HB.out
        have hFbc : Fr (fun j => j = b13) Wb (((Wb.setCell ⟨b13, 0, none⟩ (.string k2)).setCell ⟨b13, 1, none⟩ (.int .i64 v2)).drew) := (((Fr.refl (fun j => j = b13) Wb).setCell (.inl rfl) _).setCell (.inl rfl) _).drew
        have hNb : ∀ i, i < N → ¬ (i = b13) := fun i hi h => by omega
        have hbn : ∀ x, x ∈ L.fp g ∨ x ∈ R.fp g → ¬ (x = b13) := fun x hx h => nb13 (by rw [← h]; exact List.mem_append.2 hx)
        refine ⟨L, k2, v2, some ⟨R.nd.b, 0, none⟩, by rw [hLp]; rfl, s2, (s5.still hFab).fr hFbc hNb (fun x hx => hbn x (.inl hx)), .inr ⟨R, rfl, s3, (s6.still hFab).fr hFbc hNb (fun x hx => hbn x (.inr hx)), by rw [← s4, fT], ?_⟩⟩
        have gb := ga.trans (Grow.still hFab ga.lt ga.nd)
        exact ⟨gb.fr.trans hFbc (fun i hi h => by omega), gb.sub, fun x hx => Nat.lt_of_lt_of_le (gb.lt x hx) hFbc.size, gb.nd⟩
  · have hm31' : ¬ ((31 : Int) < (m : Int)) := by omega
    have p2 : W.cell? ⟨b13, 0, none⟩ = some (.string ⟨#[]⟩) := by simp [World.cell?, o13]
    have p3 : W.cell? ⟨b13, 1, none⟩ = some (.int .i64 0) := by simp [World.cell?, o13]
    have p4 : W.frozen? ⟨b13, 0, none⟩ = false := by simp [World.frozen?, o13]
    have p5 : W.frozen? ⟨b13, 1, none⟩ = false := by simp [World.frozen?, o13]
    have HT := Lib.hid (And.intro tT (And.intro gT (And.intro GT_ (And.intro fT (And.intro o13 (And.intro hb13 (And.intro hTp hm)))))))
    clear tT gT GT_ fT o13 hb13 hTp hm hkb hke hfl hpb
    go_wp2_with fail
    (try simp only [Exit.inBlock, Exit.then])
    refine bodyPost_ret (v := .tuple #[.pointer (some ⟨pb, 0, none⟩), .agg #[.string ⟨#[]⟩, .int .i64 0], .pointer none]) ?_ rfl ?_
    · rw [results_tct rfl]
      go_simp
    · obtain ⟨tT, gT, GT_, fT, o13, hb13, hTp, hm⟩ := HT.out
      have hFbc : Fr (fun j => j = b13) W ((W.setCell ⟨b13, 0, none⟩ (.string ⟨#[]⟩)).setCell ⟨b13, 1, none⟩ (.int .i64 0)) := ((Fr.refl (fun j => j = b13) W).setCell (.inl rfl) _).setCell (.inl rfl) _
      refine ⟨T, ⟨#[]⟩, 0, none, by rw [hTp], gT, tT.fr hFbc (fun i hi h => by have h' : i = b13 := h; omega) (fun x hx h => hb13.1 (h ▸ hx)), .inl ⟨rfl, fT, ?_⟩⟩
      exact ⟨GT_.fr.trans hFbc (fun i hi h => by have h' : i = b13 := h; omega), GT_.sub, fun x hx => Nat.lt_of_lt_of_le (GT_.lt x hx) hFbc.size, GT_.nd⟩
end Go.Proofs.Ybulkbrzk.BT
