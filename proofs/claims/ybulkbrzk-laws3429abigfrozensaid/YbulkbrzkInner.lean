/-
  insert at a node with kids.
-/
import Derived.Test.YbulkbrzkMid
namespace Go.Proofs.Ybulkbrzk.BT
open Go Go.RowKit
set_option linter.unusedVariables false

theorem wr_wr (a : Int) : wrap64 (wr a) = wr a := by
  have := wr_add1 a 0
  simpa using this

theorem split_kids {h : Nat} (ks : List (GT h)) (i : Nat) (hi : i < ks.length) : ∃ A K B, ks = A ++ K :: B ∧ A.length = i := by
  refine ⟨ks.take i, ks[i], ks.drop (i + 1), ?_, by rw [List.length_take]; omega⟩
  rw [← List.drop_eq_getElem_cons hi, List.take_append_drop]

set_option maxRecDepth 100000 in
set_option maxHeartbeats 16000000 in
theorem insert_inner {h : Nat} (tb g N : Nat) (t : GT (h + 1)) (key : ByteArray) (v : Int) (w : World) (hg : w.cell? ⟨tb, 1, none⟩ = some (.int .u64 g)) (htb : tb ∉ t.fp g) (hN : N ≤ w.heap.size) (ht : Tree g N w t) (hgen : t.nd.gen = g) (hnd : (t.fp g).Nodup) (hl : t.flat.length ≤ 4000) (hS : Sorted t.flat)
    (ih : ∀ (K : GT h) (W : World), W.cell? ⟨tb, 1, none⟩ = some (.int .u64 g) → tb ∉ K.fp g → N ≤ W.heap.size → Tree g N W K → K.nd.gen = g → (K.fp g).Nodup → K.flat.length ≤ 4000 → Sorted K.flat →
      Calls Yba.prog 26 #[.pointer (some ⟨tb, 0, none⟩), K.ptr, .string key, .int .i64 v] W (InsPost g N key v K W)) :
    Calls Yba.prog 26 #[.pointer (some ⟨tb, 0, none⟩), t.ptr, .string key, .int .i64 v] w (InsPost g N key v t w) := by
  have hrep := fun i w' (h1 : Tree g N w' t) (hi : i < t.nd.es.length) => repl_tree g N i t v w' h1 hgen hnd (by omega) hi hS
  have hlt0 := fun x hx => (ht.fp_lt x hx).2
  have htbl : tb < w.heap.size := World.block_lt_of_cell? _ _ hg
  obtain ⟨⟨b, eb, kb, gen, es⟩, ks⟩ := t
  have hgen' : gen = g := hgen
  subst hgen'
  have hlens := ht.flat_len
  change (nk ⟨b, eb, kb, gen, es⟩ ks).flat.length = es.length + _ ∧ _ at hlens
  obtain ⟨cap, kv, hb, he, kcap, hkv, hk⟩ := ht.1
  have hkl : ks.length = es.length + 1 := ht.2.1
  change w.heap[b]? = some (nodeObj gen (nk ⟨b, eb, kb, gen, es⟩ ks).flat.length (wr (bytes (nk ⟨b, eb, kb, gen, es⟩ ks).flat)) (.slice (some ⟨eb, 0, none⟩) es.length cap) kv) at hb
  change w.ownsRow 0 30 2 (.slice (some ⟨eb, 0, none⟩) es.length cap) es.length (es.flatMap eCells) at he
  rw [List.length_map] at hkv
  change kv = .slice (some ⟨kb, 0, none⟩) ks.length kcap at hkv
  subst hkv
  rw [List.length_map] at hk
  change w.ownsRow 0 23 1 (.slice (some ⟨kb, 0, none⟩) ks.length kcap) ks.length (ptrs (ks.map fun k => k.nd.b)) at hk
  change (nk ⟨b, eb, kb, gen, es⟩ ks).flat.length ≤ 4000 at hl
  have hes : Sorted es := Sorted.es hS
  have hsr := search_in b gen eb cap _ _ _ es key w hb he (by omega) hes
  have hbl := (Array.getElem?_eq_some_iff.1 hb).1
  have hebl := (he.lt eb rfl).2
  have hkbl := (hk.lt kb rfl).2
  obtain ⟨F0, hF0⟩ : ∃ F0, F0 = (nk ⟨b, eb, kb, gen, es⟩ ks).flat := ⟨_, rfl⟩
  rw [← hF0] at hb hl
  obtain ⟨M, hM⟩ : ∃ M, M = ks.length := ⟨_, rfl⟩
  rw [← hM] at hb hk hkl
  obtain ⟨Le, hLe⟩ : ∃ Le, Le = es.length := ⟨_, rfl⟩
  rw [← hLe] at hb he hkl hlens
  obtain ⟨SZ, hSZ⟩ : ∃ SZ, SZ = F0.length := ⟨_, rfl⟩
  obtain ⟨BY, hBY⟩ : ∃ BY, BY = bytes F0 := ⟨_, rfl⟩
  rw [← hSZ, ← hBY] at hb
  rw [← hSZ] at hl
  have hLl : Le ≤ 4000 := by rw [← hF0, ← hSZ] at hlens; omega
  have hMl : M ≤ 4001 := by omega
  have hkl1 : M ≤ Le + 1 ∧ Le + 1 ≤ M := by omega
  clear hkl
  have hbe : b ≠ eb ∧ b ≠ kb ∧ eb ≠ kb := by
    have h1 := own_nd (n := ⟨b, eb, kb, gen, es⟩) (g := gen) (kid := true) rfl (GT.fp_nd hnd)
    exact ⟨h1.1, (h1.2 rfl).1, (h1.2 rfl).2⟩
  have hNb : N ≤ b ∧ N ≤ eb ∧ N ≤ kb := by
    have h1 : Nd.lies gen N true ⟨b, eb, kb, gen, es⟩ := ht.2.2.1
    unfold Nd.lies at h1
    rw [if_pos rfl] at h1
    exact ⟨h1.1, h1.2.1, h1.2.2 rfl⟩
  have H0 := Lib.hid (And.intro hb (And.intro he (And.intro hk (And.intro hS (And.intro ht (And.intro hF0 (And.intro hM (And.intro hLe (And.intro hSZ (And.intro hBY (And.intro hlt0 (And.intro hnd (And.intro hg htb)))))))))))))
  have Hrep := Lib.hid hrep
  have Hih := Lib.hid ih
  clear hrep ih hb he hk hS ht hF0 hM hLe hSZ hBY hlt0 hlens hgen hnd hg htb hes
  show Calls Yba.prog 26 #[.pointer (some ⟨tb, 0, none⟩), .pointer (some ⟨b, 0, none⟩), .string key, .int .i64 v] w _
  go_enter Yba.func26, Yba.ntmps26
  go_upto_region 2 with (go_at_call 30; refine hsr.mono ?_; rintro e w1 ⟨i, f, q, rfl, rfl, hpl⟩)
  clear hsr
  obtain ⟨W1, hW1⟩ : ∃ W1, W1 = w.drewN q := ⟨_, rfl⟩
  rw [← hW1]
  have hF1 : Fr (fun _ => False) w W1 := by rw [hW1]; exact (Fr.refl _ _).drewN _
  clear hW1
  obtain ⟨hb0, he0, hk0, hS0, ht0, hF0, hM, hLe, hSZ, hBY, hlt0, hnd, hg, htb⟩ := H0.out
  have b1 := (hF1.block b hbl (fun h => h)).trans hb0
  have ht1 := ht0.still hF1
  have hil : i ≤ Le := by rw [hLe]; exact hpl.le
  cases f with
  | true =>
    obtain ⟨hi, hkey⟩ := hpl.hit rfl
    have hrp := Hrep.out i W1 ht1 hi
    clear hb0 he0 hk0 hS0 ht0 ht1 b1 hF0 hM hLe hSZ hBY hlt0 hnd hg htb
    go_wp2_with (go_at_call 38; refine hrp.mono ?_; rintro e w2 ⟨t', rfl, q1, q2, q3, q4, q5, q6, q7⟩)
    go_ret2
    refine ⟨t', false, 0, rfl, q1, q2, ?_, q6, ?_, .inr ⟨rfl, rfl, q4, q5⟩⟩
    · rw [q3, ← hkey]; rfl
    · obtain ⟨_, _, _, _, ht0, _, _, _, _, _, hlt0, hnd, _⟩ := H0.out
      exact (Grow.still hF1 hlt0 hnd).trans q7
  | false =>
    have hk1 : W1.cell? ⟨b, 4, none⟩ = some (.slice (some ⟨kb, 0, none⟩) M kcap) := node_cell b1 4
    have hkn := kids_some' W1 ⟨kb, 0, none⟩ M kcap
    obtain ⟨A, K, B, hks, hAl⟩ := split_kids ks i (by omega)
    subst hks
    subst hAl
    have hTK : Tree gen N W1 K := ht1.2.2.2.2 K (by simp)
    have hfd := focus_nd hnd
    have hkl' : (A ++ K :: B).length = es.length + 1 := ht0.2.1
    have hff := focus_flat (n := ⟨b, eb, kb, gen, es⟩) hkl'
    have hKlen : K.flat.length ≤ 4000 := by
      have : (nk ⟨b, eb, kb, gen, es⟩ (A ++ K :: B)).flat.length ≤ 4000 := by rw [← hF0, ← hSZ]; exact hl
      rw [hff] at this
      simp only [List.length_append] at this
      omega
    have hg1 : W1.cell? ⟨tb, 1, none⟩ = some (.int .u64 gen) := (hF1.cell (p := ⟨tb, 1, none⟩) htbl (fun h => h)).trans hg
    have hown := own_tree tb gen N K W1 hg1 (Nat.le_trans hN hF1.size) hTK hfd.2.2.2 (by omega)
    have hkc : W1.cell? ⟨kb, A.length, none⟩ = some K.ptr := by
      rw [hF1.cell (p := ⟨kb, A.length, none⟩) hkbl (fun h => h), row_cell hk0 A.length (by rw [hM]; simp)]
      simp [ptrs, GT.ptr]
    have hAM : A.length < M := by omega
    have hlow := focus_low hkl' hS0 hpl
    have hhigh := focus_high hkl' hS0 hpl
    have H1 := Lib.hid (And.intro hpl (And.intro hfd (And.intro hkl' (And.intro hff (And.intro ht1 (And.intro b1 (And.intro hTK (And.intro hlow hhigh))))))))
    obtain ⟨a, ha⟩ : ∃ a, a = A.length := ⟨_, rfl⟩
    rw [← ha] at hAM hil hkc
    rw [← ha]
    have Ha := Lib.hid ha
    unfold GT.ptr at hkc hown
    clear hb0 he0 hk0 hS0 ht0 ht1 b1 hF0 hM hLe hSZ hBY hlt0 hnd hg htb hpl hfd hkl' hff hTK hlow hhigh ha
    go_upto_region 10 with (go_at_call 23; refine hown.mono ?_; rintro e W2 ⟨n', rfl, o1, o2, o3, o4, o5⟩)
    clear hown hkc hk1
    obtain ⟨hb0, he0, hk0, hS0, ht0, hF0, hM, hLe, hSZ, hBY, hlt0, hnd, hg, htb⟩ := H0.out
    obtain ⟨hpl, hfd, hkl', hff, ht1, b1, hTK, hlow, hhigh⟩ := H1.out
    have ha := Ha.out
    obtain ⟨K1, hK1⟩ : ∃ K1, K1 = K.withNd n' := ⟨_, rfl⟩
    rw [← hK1] at o3 o4
    have hK1n : K1.nd = n' := by rw [hK1, GT.withNd_nd]
    have hK1f : K1.flat = K.flat := by rw [hK1, GT.withNd_flat K n' o2]
    have hK1g : K1.nd.gen = gen := by rw [hK1n]; exact o1
    have hK1p : K1.ptr = .pointer (some ⟨n'.b, 0, none⟩) := by unfold GT.ptr; rw [hK1n]
    obtain ⟨T3, G3'⟩ := set_kid ht1 rfl hnd o5 o3 hK1f o4
    have G3 := (Grow.still hF1 hlt0 hnd).trans G3'
    clear G3'
    obtain ⟨W3, hW3⟩ : ∃ W3, W3 = W2.setCell ⟨kb, A.length, none⟩ K1.ptr := ⟨_, rfl⟩
    change Tree gen N (W2.setCell ⟨kb, A.length, none⟩ K1.ptr) _ at T3
    change Grow _ w (W2.setCell ⟨kb, A.length, none⟩ K1.ptr) _ at G3
    rw [← hW3] at T3 G3
    have b2 := (o5.block b (Array.getElem?_eq_some_iff.1 b1).1 (fun h => h)).trans b1
    have hF02 : Fr (fun _ => False) w W2 := hF1.trans o5 (fun _ _ h => h)
    have k2 := row_fr hk0 hF02 (fun h => h)
    have c24 : W2.cell? ⟨b, 4, none⟩ = some (.slice (some ⟨kb, 0, none⟩) M kcap) := node_cell b2 4
    have ck2 : W2.cell? ⟨kb, a, none⟩ = some K.ptr := by
      rw [row_cell k2 a (by omega), ha]
      simp [ptrs, GT.ptr]
    have fk2 : W2.frozen? ⟨kb, a, none⟩ = false := by
      obtain ⟨_, _, cur, hcur, _⟩ := row_open k2
      simp [World.frozen?, hcur]
    have hK3 : Tree gen N W3 K1 := T3.2.2.2.2 K1 (by simp)
    obtain ⟨ck, kvk, hkb3, hke3, hkk3⟩ := hK3.at
    rw [hK1n] at hkb3 hke3 hkk3
    have c33 : W3.cell? ⟨n'.b, 3, none⟩ = some (.slice (some ⟨n'.eb, 0, none⟩) n'.es.length ck) := node_cell hkb3 3
    rw [← ha, hK1p] at hW3
    unfold GT.ptr at ck2
    have hFs3 : Fr (fun j => j = kb) w W3 := by rw [hW3]; exact (hF02.mono (S' := fun j => j = kb) (fun _ _ h => h.elim)).setCell (p := ⟨kb, a, none⟩) (.inl rfl) _
    have hn'l : n'.es.length ≤ 4000 := by
      have := hK3.flat_len
      rw [hK1f, hK1n] at this
      have h2 : (nk ⟨b, eb, kb, gen, es⟩ (A ++ K :: B)).flat.length ≤ 4000 := by rw [← hF0, ← hSZ]; exact hl
      rw [hff] at h2
      simp only [List.length_append] at h2
      omega
    have f3 : (nk ⟨b, eb, kb, gen, es⟩ (A ++ K1 :: B)).flat = F0 := by
      rw [hF0]
      have : (A ++ K1 :: B).map GT.flat = (A ++ K :: B).map GT.flat := by simp [hK1f]
      show weave ((A ++ K1 :: B).map GT.flat) es = weave ((A ++ K :: B).map GT.flat) es
      rw [this]
    obtain ⟨m, hm⟩ : ∃ m, m = n'.es.length := ⟨_, rfl⟩
    rw [← hm] at c33 hn'l
    have H3 := Lib.hid (And.intro hW3 (And.intro T3 (And.intro G3 (And.intro hK1n (And.intro hK1f (And.intro hK1g (And.intro hK1p (And.intro f3 (And.intro hK3 (And.intro hFs3 hm))))))))))
    clear hb0 he0 hk0 hS0 ht0 hF0 hM hLe hSZ hBY hlt0 hnd hg htb hpl hfd hkl' hff ht1 b1 hTK hlow hhigh ha hK1 o3 o4 hK1n hK1f hK1g hK1p T3 G3 hW3 b2 k2 hK3 hkb3 hke3 hkk3 f3 hFs3 hm hF02 o5
    go_upto_region 11 with fail
    rw [← H3.out.1]
    clear c24 ck2 fk2
    by_cases hm31 : m = 31
    · subst hm31
      have c33' : W3.cell? ⟨n'.b, 3, none⟩ = some (.slice (some ⟨n'.eb, 0, none⟩) 31 ck) := c33
      have hK3 := H3.out.2.2.2.2.2.2.2.2.1
      have hK1n := H3.out.2.2.2.1
      have G3 := H3.out.2.2.1
      have hK1g := H3.out.2.2.2.2.2.1
      have hK1p := H3.out.2.2.2.2.2.2.1
      have T3 := H3.out.2.1
      have f3 := H3.out.2.2.2.2.2.2.2.1
      have hm := H3.out.2.2.2.2.2.2.2.2.2.2
      have hFs3 := H3.out.2.2.2.2.2.2.2.2.2.1
      obtain ⟨hb0, he0, hk0, hS0, ht0, hF0, hM, hLe, hSZ, hBY, hlt0, hnd, hg, htb⟩ := H0.out
      have ha := Ha.out
      have hd3 := focus_nd G3.nd
      have hg3 : W3.cell? ⟨tb, 1, none⟩ = some (.int .u64 gen) := (G3.fr.cell (p := ⟨tb, 1, none⟩) htbl htb).trans hg
      have hN3 : N ≤ W3.heap.size := Nat.le_trans hN G3.fr.size
      have hff3 := focus_flat (n := ⟨b, eb, kb, gen, es⟩) (show (A ++ K1 :: B).length = es.length + 1 from T3.2.1)
      have hK1l : K1.flat.length ≤ 4000 := by
        have h2 : (nk ⟨b, eb, kb, gen, es⟩ (A ++ K1 :: B)).flat.length ≤ 4000 := by rw [f3, ← hSZ]; exact hl
        rw [hff3] at h2
        simp only [List.length_append] at h2
        omega
      have hsp := split_tree tb gen N K1 W3 hg3 hN3 hK3 hK1g hd3.2.2.2 (by omega) (by rw [hK1n, ← hm]; omega)
      rw [hK1p] at hsp
      have hb3 := (hFs3.block b hbl (fun h => hbe.2.1 h)).trans hb0
      have he3 := row_fr he0 hFs3 (fun h => hbe.2.2 h)
      have hMl' : (A ++ K1 :: B).length = M := by rw [hM]; simp
      have hk3 : W3.ownsRow 0 23 1 (.slice (some ⟨kb, 0, none⟩) M kcap) M (ptrs ((A ++ K1 :: B).map fun k => k.nd.b)) := by
        obtain ⟨ecap, ekv, ehb, ehe, ekcap, ekv', ehk⟩ := T3.1
        rw [List.length_map, hMl'] at ekv' ehk
        subst ekv'
        have e1 : some (nodeObj gen (weave ((A ++ K1 :: B).map GT.flat) es).length (wr (bytes (weave ((A ++ K1 :: B).map GT.flat) es))) (.slice (some ⟨eb, 0, none⟩) es.length ecap) (.slice (some ⟨kb, 0, none⟩) M ekcap)) = some (nodeObj gen SZ (wr BY) (.slice (some ⟨eb, 0, none⟩) Le cap) (.slice (some ⟨kb, 0, none⟩) M kcap)) := ehb.symm.trans hb3
        simp [nodeObj] at e1
        obtain ⟨_, _, _, e2⟩ := e1
        rw [← e2]
        exact ehk
      have H5 := Lib.hid (And.intro hK3 (And.intro hK1n (And.intro hK1g (And.intro T3 (And.intro f3 (And.intro G3 (And.intro hd3 (And.intro hb3 (And.intro he3 (And.intro hk3 (And.intro hMl' hff3)))))))))))
      clear hK3 hK1n hK1g hK1p T3 f3 hm hFs3 hb0 he0 hk0 hS0 ht0 hF0 hM hLe hSZ hBY hlt0 hnd hg htb ha hd3 hg3 hff3 hK1l hb3 he3 hk3 hMl' G3
      go_upto_region 13 with (go_at_call 24; refine hsp.mono ?_; rintro e W4 ⟨L, R, k, vv, rfl, s1, s2, s3, s4, s5, s6, s7⟩)
      clear hsp
      obtain ⟨W5, hW5⟩ : ∃ W5, W5 = W4.alloc (.cells #[.string k, .int .i64 vv] 30) := ⟨_, rfl⟩
      obtain ⟨bx, hbx⟩ : ∃ bx, bx = W4.heap.size := ⟨_, rfl⟩
      rw [← hW5, ← hbx]
      obtain ⟨hK3, hK1n, hK1g, T3, f3, G3, hd3, hb3, he3, hk3, hMl', hff3⟩ := H5.out
      have hmo := mem_own (n := ⟨b, eb, kb, gen, es⟩) (g := gen) (kid := true) rfl
      have hnb : b ∉ K1.fp gen ∧ eb ∉ K1.fp gen ∧ kb ∉ K1.fp gen := ⟨fun h => hd3.2.1 _ h hmo.1, fun h => hd3.2.1 _ h hmo.2.1, fun h => hd3.2.1 _ h (hmo.2.2 rfl)⟩
      have hb4 := (s7.fr.block b (Array.getElem?_eq_some_iff.1 hb3).1 hnb.1).trans hb3
      have he4 := row_fr he3 s7.fr hnb.2.1
      have hk4 := row_fr hk3 s7.fr hnb.2.2
      have hF45 : Fr (fun _ => False) W4 W5 := by rw [hW5]; exact (Fr.refl _ _).alloc _
      have o5 : W5.heap[bx]? = some (.cells #[.string k, .int .i64 vv] 30 (0, 0)) := by
        rw [hW5, hbx]
        show (W4.heap.push _)[W4.heap.size]? = _
        simp
      have b4l : b < W4.heap.size ∧ eb < W4.heap.size ∧ kb < W4.heap.size := ⟨(Array.getElem?_eq_some_iff.1 hb4).1, (he4.lt eb rfl).2, (hk4.lt kb rfl).2⟩
      have b5 := (hF45.block b b4l.1 (fun h => h)).trans hb4
      obtain ⟨W6, hW6⟩ : ∃ W6, W6 = (W5.alloc (.cells #[.string k, .int .i64 vv] 30)).drew := ⟨_, rfl⟩
      have hF56 : Fr (fun _ => False) W5 W6 := by rw [hW6]; exact ((Fr.refl _ _).alloc _).drew
      have hF46 : Fr (fun _ => False) W4 W6 := hF45.trans hF56 (fun _ _ h => h)
      have o6 : W6.heap[W5.heap.size]? = some (.cells #[.string k, .int .i64 vv] 30 (0, 0)) := by
        rw [hW6]
        show (W5.heap.push _)[W5.heap.size]? = _
        simp
      have hLe := H0.out.2.2.2.2.2.2.2.1
      have hins := insE_in eb Le cap a W5.heap.size _ [.string k, .int .i64 vv] W6 (row_fr he4 hF46 (fun h => h)) o6 rfl (one2 k vv) (eCells_one es) (by have := hF45.size; omega) hil (by omega)
      rw [ins_cells] at hins
      have b6 := (hF46.block b b4l.1 (fun h => h)).trans hb4
      have bxl := (Array.getElem?_eq_some_iff.1 o5).1
      have hox6 := (hF56.block bx bxl (fun h => h)).trans o5
      have x0 : W5.cell? ⟨bx, 0, none⟩ = some (.string k) := by simp [World.cell?, o5]
      have x1 : W5.cell? ⟨bx, 1, none⟩ = some (.int .i64 vv) := by simp [World.cell?, o5]
      have c5 : W5.cell? ⟨b, 3, none⟩ = some (.slice (some ⟨eb, 0, none⟩) Le cap) := node_cell b5 3
      have hbxn : bx ≠ eb ∧ bx ≠ b ∧ bx ≠ kb := by omega
      have b5l : b < W5.heap.size := (Array.getElem?_eq_some_iff.1 b5).1
      subst hW6
      have B6 := Lib.hid (Array.getElem?_eq_some_iff.1 b6).1
      have H6 := Lib.hid (And.intro hW5 (And.intro hbx (And.intro b6 (And.intro hox6 (And.intro hF56 (And.intro hF45 (And.intro hk4 (And.intro s1 (And.intro s2 (And.intro s3 (And.intro s4 (And.intro s5 (And.intro s6 s7)))))))))))))
      have hz45 := hF45.size
      clear hW5 hbx hK3 hK1n hK1g T3 f3 G3 hd3 hb3 he3 hk3 hMl' hff3 hmo hnb hb4 he4 hk4 o5 b5 o6 hLe b6 hox6 hF56 hF45 hF46 s1 s2 s3 s4 s5 s6 s7
      go_cut [] (fun wx => ∃ eb2 cap2, wx.heap[b]? = some (nodeObj gen SZ (wr BY) (.slice (some ⟨eb2, 0, none⟩) (Le + 1) cap2) (.slice (some ⟨kb, 0, none⟩) M kcap)) ∧ wx.ownsRow 0 30 2 (.slice (some ⟨eb2, 0, none⟩) (Le + 1) cap2) (Le + 1) ((es.take a ++ (k, vv) :: es.drop a).flatMap eCells) ∧ (eb2 = eb ∨ W5.heap.size ≤ eb2) ∧ wx.heap[bx]? = some (.cells #[.string k, .int .i64 vv] 30 (0, 0)) ∧ Fr (fun j => j = eb ∨ j = b) W5 wx)
      case first =>
        go_region_with (go_at_call 39; refine hins.mono ?_; rintro e w'' ⟨g', cap', rfl, ho, hg', hF⟩; have b7 := (hF.block b B6.out (fun h => hbe.1 h)).trans H6.out.2.2.1; have c4 : w''.cell? ⟨b, 3, none⟩ = some (.slice (some ⟨eb, 0, none⟩) Le cap) := node_cell b7 3; have f4 := node_frozen b7 3)
        all_goals go_wp2_with fail
        all_goals go_meet
        all_goals
          case rel =>
            have hS : Fr (fun j => j = b) w'' (w''.setCell ⟨b, 3, none⟩ (.slice (some ⟨g', 0, none⟩) (Le + 1) cap')) := (Fr.refl (fun j => j = b) w'').setCell (.inl rfl) _
            have hF56 := H6.out.2.2.2.2.1
            have ho4 := (hF.block bx (Nat.lt_of_lt_of_le bxl hF56.size) (fun h => hbxn.1 h)).trans H6.out.2.2.2.1
            have hsz := hF56.size
            have b6l := B6.out
            refine ⟨g', cap', node_set3 b7 _, row_fr ho hS (by omega), by omega, (hS.block bx (Array.getElem?_eq_some_iff.1 ho4).1 (by omega)).trans ho4, ?_⟩
            exact ((hF56.mono (fun _ _ h => h.elim)).trans hF (fun _ _ h => .inl h)).trans hS (fun _ _ h => .inr h)
      case rest =>
        obtain ⟨eb2, cap2, n7, r7, hg7, o7, hF57⟩ := hcut
        rename World => W7
        clear hins x0 x1 c5
        obtain ⟨hW5, hbx, b6, hox6, hF56, hF45, hk4, s1, s2, s3, s4, s5, s6, s7⟩ := H6.out
        have c74 : W7.cell? ⟨b, 4, none⟩ = some (.slice (some ⟨kb, 0, none⟩) M kcap) := node_cell n7 4
        obtain ⟨W8, hW8⟩ : ∃ W8, W8 = W7.alloc (.cells #[.pointer (some ⟨R.nd.b, 0, none⟩)] 23) := ⟨_, rfl⟩
        have hF78 : Fr (fun _ => False) W7 W8 := by rw [hW8]; exact (Fr.refl _ _).alloc _
        have o8 : W8.heap[W7.heap.size]? = some (.cells #[.pointer (some ⟨R.nd.b, 0, none⟩)] 23 (0, 0)) := by
          rw [hW8]
          show (W7.heap.push _)[W7.heap.size]? = _
          simp
        have hF47 : Fr (fun j => j = eb ∨ j = b) W4 W7 := (hF45.mono (fun _ _ h => h.elim)).trans hF57 (fun _ _ h => h)
        have hF48 : Fr (fun j => j = eb ∨ j = b) W4 W8 := hF47.trans hF78 (fun _ _ h => h.elim)
        have hk8 := row_fr hk4 hF48 (by omega)
        have hinsk := insK_in kb M kcap (a + 1) W7.heap.size _ [.pointer (some ⟨R.nd.b, 0, none⟩)] W8 hk8 o8 rfl (fun u hu => by simp at hu; subst hu; rfl) (ptrs_one _) (by have := hF47.size; omega) (by omega) (by omega)
        have hcast : ((a + 1 : Nat) : Int) = (a : Int) + 1 := by omega
        have ha := Ha.out
        rw [hcast, ha, ins_ptrs A B K1 L R s1, ← ha] at hinsk
        have b8 := (hF78.block b (Array.getElem?_eq_some_iff.1 n7).1 (fun h => h)).trans n7
        have b8l := (Array.getElem?_eq_some_iff.1 b8).1
        subst hW8
        have B8 := Lib.hid b8l
        have HB8 := Lib.hid (And.intro b8 (And.intro hF78 (And.intro hF47 (And.intro r7 (And.intro o7 (And.intro n7 hF57))))))
        have hR : R.ptr = .pointer (some ⟨R.nd.b, 0, none⟩) := rfl
        have h7l : b < W7.heap.size := (Array.getElem?_eq_some_iff.1 n7).1
        clear hW5 hbx b6 hox6 hF56 hF45 hk4 s1 s2 s3 s4 s5 s6 s7 b8 b8l o8 hk8 hcast ha hF78 hF48 hF47 r7 o7 n7 hF57
        rw [hR]
        clear hR
        go_upto_region 15 with (go_at_call 40; refine hinsk.mono ?_; rintro e w9 ⟨kb2, kcap2, rfl, ho9, hg9, hF9⟩; have b9 := (hF9.block b B8.out (fun h => hbe.2.1 h)).trans HB8.out.1; have c94 : w9.cell? ⟨b, 4, none⟩ = some (.slice (some ⟨kb, 0, none⟩) M kcap) := node_cell b9 4; have f94 := node_frozen b9 4)
        clear hinsk c74 c94 f94
        obtain ⟨b8, hF78, hF47, r7, o7, n7, hF57⟩ := HB8.out
        obtain ⟨hW5, hbx, b6, hox6, hF56, hF45, hk4, s1, s2, s3, s4, s5, s6, s7⟩ := H6.out
        obtain ⟨hK3, hK1n, hK1g, T3, f3, G3, hd3, hb3, he3, hk3, hMl', hff3⟩ := H5.out
        obtain ⟨hb0, he0, hk0, hS0, ht0, hF0, hM, hLe, hSZ, hBY, hlt0, hnd, hg, htb⟩ := H0.out
        obtain ⟨hpl, hfd, hkl', hff, ht1, b1, hTK, hlow, hhigh⟩ := H1.out
        have ha := Ha.out
        obtain ⟨W9, hW9⟩ : ∃ W9, W9 = w9.setCell ⟨b, 4, none⟩ (.slice (some ⟨kb2, 0, none⟩) (M + 1) kcap2) := ⟨_, rfl⟩
        rw [← hW9]
        have hFs9 : Fr (fun j => j = b) w9 W9 := by rw [hW9]; exact (Fr.refl (fun j => j = b) w9).setCell (.inl rfl) _
        have hz45 := hF45.size
        have hz57 := hF57.size
        have hz78 := hF78.size
        have hebl2 := (r7.lt eb2 rfl).2
        have hg9' : kb2 = kb ∨ W7.heap.size < kb2 := by
          have : (W7.alloc (.cells #[.pointer (some ⟨R.nd.b, 0, none⟩)] 23)).heap.size = W7.heap.size + 1 := by simp
          omega
        have hF49 : Fr (fun j => j ∈ (⟨b, eb, kb, gen, es⟩ : Nd).own gen true) W4 W9 := by
          have hmo := mem_own (n := ⟨b, eb, kb, gen, es⟩) (g := gen) (kid := true) rfl
          have q1 : Fr (fun j => j = eb ∨ j = b ∨ j = kb) W4 W9 := (((hF47.mono (fun _ _ h => by omega)).trans hF78 (fun _ _ h => h.elim)).trans hF9 (fun _ _ h => .inr (.inr h))).trans hFs9 (fun _ _ h => .inr (.inl h))
          refine q1.mono (fun j _ h => ?_)
          rcases h with rfl | rfl | rfl
          · exact hmo.2.1
          · exact hmo.1
          · exact hmo.2.2 rfl
        have n9 : W9.heap[b]? = some (nodeObj gen SZ (wr BY) (.slice (some ⟨eb2, 0, none⟩) (Le + 1) cap2) (.slice (some ⟨kb2, 0, none⟩) (M + 1) kcap2)) := by rw [hW9]; exact node_set4 b9 _
        have r8 := row_fr r7 hF78 (fun h => h)
        have r9' := row_fr r8 hF9 (by omega)
        have r9 := row_fr r9' hFs9 (by omega)
        have k9 := row_fr ho9 hFs9 (by omega)
        have o8 := (hF78.block bx (Array.getElem?_eq_some_iff.1 o7).1 (fun h => h)).trans o7
        have o9' := (hF9.block bx (Array.getElem?_eq_some_iff.1 o8).1 (by omega)).trans o8
        have o9 := (hFs9.block bx (Array.getElem?_eq_some_iff.1 o9').1 (by omega)).trans o9'
        obtain ⟨T9, G9', f9'⟩ := split_kid (n := ⟨b, eb, kb, gen, es⟩) (W3 := W4) (W6 := W9) (eb' := eb2) (kb' := kb2) (cap' := cap2) (kcap' := kcap2) T3 rfl G3.nd hN3 s5 s6 s4 s7 hF49 (by rw [f3, ← hSZ, ← hBY, hMl']; show W9.heap[b]? = some (nodeObj gen SZ (wr BY) (.slice (some ⟨eb2, 0, none⟩) (es.length + 1) cap2) (.slice (some ⟨kb2, 0, none⟩) (M + 1) kcap2)); rw [← hLe]; exact n9) (by show W9.ownsRow 0 30 2 (.slice (some ⟨eb2, 0, none⟩) (es.length + 1) cap2) (es.length + 1) _; rw [← hLe, ← ha]; exact r9) (by rw [hMl']; exact k9) (by show eb2 = eb ∨ W4.heap.size ≤ eb2; omega) (by show kb2 = kb ∨ W4.heap.size ≤ kb2; omega) (by omega)
        change Tree gen N W9 (nk ⟨b, eb2, kb2, gen, es.take A.length ++ (k, vv) :: es.drop A.length⟩ (A ++ L :: R :: B)) at T9
        change Grow _ _ _ ((nk ⟨b, eb2, kb2, gen, es.take A.length ++ (k, vv) :: es.drop A.length⟩ (A ++ L :: R :: B)).fp gen) at G9'
        change (nk ⟨b, eb2, kb2, gen, es.take A.length ++ (k, vv) :: es.drop A.length⟩ (A ++ L :: R :: B)).flat = _ at f9'
        have G9 := G3.trans G9'
        have f9 := f9'.trans f3
        have hAe : A.length ≤ es.length := by omega
        have hSf : Sorted (fore (A.map GT.flat) (es.take A.length) ++ (L.flat ++ (k, vv) :: (R.flat ++ aft (es.drop A.length) (B.map GT.flat)))) := by
          have h1 : Sorted (nk ⟨b, eb, kb, gen, es⟩ (A ++ K1 :: B)).flat := by rw [f3, hF0]; exact hS0
          rw [hff3, s4] at h1
          simpa [List.append_assoc] using h1
        have x0 : W9.cell? ⟨bx, 0, none⟩ = some (.string k) := by simp [World.cell?, o9]
        have hSz9 : (nk ⟨b, eb2, kb2, gen, es.take A.length ++ (k, vv) :: es.drop A.length⟩ (A ++ L :: R :: B)).flat.length ≤ 4000 := by rw [f9, ← hSZ]; exact hl
        have hrp9 := repl_tree gen N a (nk ⟨b, eb2, kb2, gen, es.take A.length ++ (k, vv) :: es.drop A.length⟩ (A ++ L :: R :: B)) v W9 T9 rfl G9.nd (by omega) (by show a < (es.take A.length ++ (k, vv) :: es.drop A.length).length; rw [List.length_append, List.length_take, List.length_cons, List.length_drop]; omega) (by rw [f9, hF0]; exact hS0)
        have hkm : keyAt (es.take A.length ++ (k, vv) :: es.drop A.length) a = k := by rw [ha]; exact keyAt_mid es A.length k vv hAe
        have H9 := Lib.hid (And.intro T9 (And.intro G9 (And.intro f9 (And.intro hlow (And.intro hhigh (And.intro hSf (And.intro hAe (And.intro s2 (And.intro s3 (And.intro hkm (And.intro hF0 s1)))))))))))
        clear hW9 hFs9 hz45 hz57 hz78 hebl2 hg9' hF49 n9 r8 r9' r9 k9 o8 o9' o9 T9 G9' f9' G9 f9 hAe hSf hSz9 hkm b8 hF78 hF47 r7 o7 n7 hF57 hW5 hbx b6 hox6 hF56 hF45 hk4 s1 s2 s3 s4 s5 s6 s7 hK3 hK1n hK1g T3 f3 G3 hd3 hb3 he3 hk3 hMl' hff3 hb0 he0 hk0 hS0 ht0 hF0 hM hLe hSZ hBY hlt0 hnd hg htb hpl hfd hkl' hff ht1 b1 hTK hlow hhigh ha ho9 hg9 hF9 b9
        rcases cmp_keys key k with ⟨hc, hck⟩ | ⟨hc, hck⟩ | ⟨hc, hck⟩
        · have hrp9' : Calls Yba.prog 38 #[.pointer (some ⟨b, 0, none⟩), .int .i64 a, .int .i64 v] W9 _ := hrp9
          have HC := Lib.hid hck
          clear hck hrp9
          go_wp2_with (first
            | (go_at_call 11; refine (compare_in key k _).mono ?_; rintro e w' ⟨rfl, h'⟩; replace h' := h'.symm; subst h'; rw [hc])
            | (go_at_call 38; refine hrp9'.mono ?_; rintro e w2 ⟨t', rfl, q1, q2, q3, q4, q5, q6, q7⟩))
          go_ret2
          have q3' : t'.flat = ins key v (nk ⟨b, eb2, kb2, gen, es.take A.length ++ (k, vv) :: es.drop A.length⟩ (A ++ L :: R :: B)).flat := by
            rw [q3, HC.out]
            congr 1
            exact H9.out.2.2.2.2.2.2.2.2.2.1
          exact InsPost.after (t := nk ⟨b, eb2, kb2, gen, es.take A.length ++ (k, vv) :: es.drop A.length⟩ (A ++ L :: R :: B)) ⟨t', false, 0, rfl, q1, q2, q3', q6, q7, .inr ⟨rfl, rfl, q4, q5⟩⟩ rfl (H9.out.2.2.1.trans H9.out.2.2.2.2.2.2.2.2.2.2.1) H9.out.2.1
        · have hlow9 := low_R H9.out.2.2.2.2.2.2.1 H9.out.2.2.2.1 hck H9.out.2.2.2.2.2.1
          have hhigh9 := high_R (L := L) (k := k) (v := vv) H9.out.2.2.2.2.2.2.1 H9.out.2.2.2.2.1
          have hRg := H9.out.2.2.2.2.2.2.2.2.1
          have hRp : R.ptr = .pointer (some ⟨R.nd.b, 0, none⟩) := rfl
          have T9r : Tree gen N W9 (nk ⟨b, eb2, kb2, gen, es.take A.length ++ (k, vv) :: es.drop A.length⟩ ((A ++ [L]) ++ R :: B)) := by
            rw [List.append_assoc, List.singleton_append]
            exact H9.out.1
          have G9r : Grow ((nk ⟨b, eb, kb, gen, es⟩ (A ++ K :: B)).fp gen) w W9 ((nk ⟨b, eb2, kb2, gen, es.take A.length ++ (k, vv) :: es.drop A.length⟩ ((A ++ [L]) ++ R :: B)).fp gen) := by
            rw [List.append_assoc, List.singleton_append]
            exact H9.out.2.1
          have f9r : (nk ⟨b, eb2, kb2, gen, es.take A.length ++ (k, vv) :: es.drop A.length⟩ ((A ++ [L]) ++ R :: B)).flat = F0 := by
            rw [List.append_assoc, List.singleton_append]
            exact H9.out.2.2.1
          clear hck hrp9
          go_upto_region 20 with (go_at_call 11; refine (compare_in key k _).mono ?_; rintro e w' ⟨rfl, h'⟩; replace h' := h'.symm; subst h'; rw [hc])
          obtain ⟨hb0, he0, hk0, hS0, ht0, hF0, hM, hLe, hSZ, hBY, hlt0, hnd, hg, htb⟩ := H0.out
          have eK : Tree gen N W9 R := T9r.2.2.2.2 R (by simp)
          have eD := focus_nd G9r.nd
          have eL : ((A ++ [L]) ++ R :: B).length = (⟨b, eb2, kb2, gen, es.take A.length ++ (k, vv) :: es.drop A.length⟩ : Nd).es.length + 1 := T9r.2.1
          have eF := focus_flat (n := ⟨b, eb2, kb2, gen, es.take A.length ++ (k, vv) :: es.drop A.length⟩) eL
          have eS : Sorted (nk ⟨b, eb2, kb2, gen, es.take A.length ++ (k, vv) :: es.drop A.length⟩ ((A ++ [L]) ++ R :: B)).flat := by rw [f9r, hF0]; exact hS0
          have eKS : Sorted R.flat := by rw [eF] at eS; exact eS.right.left
          have eKl : R.flat.length ≤ 4000 := by
            have : (nk ⟨b, eb2, kb2, gen, es.take A.length ++ (k, vv) :: es.drop A.length⟩ ((A ++ [L]) ++ R :: B)).flat.length ≤ 4000 := by rw [f9r, ← hSZ]; exact hl
            rw [eF] at this
            simp only [List.length_append] at this
            omega
          have eg : W9.cell? ⟨tb, 1, none⟩ = some (.int .u64 gen) := (G9r.fr.cell (p := ⟨tb, 1, none⟩) htbl htb).trans hg
          have etb : tb ∉ R.fp gen := fun hx => by
            have hx' : tb ∈ (nk ⟨b, eb2, kb2, gen, es.take A.length ++ (k, vv) :: es.drop A.length⟩ ((A ++ [L]) ++ R :: B)).fp gen := by
              rw [focus_fp]
              exact List.mem_append.2 (.inl (List.mem_append.2 (.inr hx)))
            rcases G9r.sub tb hx' with h | h
            · exact htb h
            · omega
          have erec := Hih.out R W9 eg etb (Nat.le_trans hN G9r.fr.size) eK hRg eD.2.2.2 eKl eKS
          rw [hRp] at erec
          obtain ⟨ecap, ekv, ehb, ehe, ekcap, ekv', ehk⟩ := T9r.1
          rw [List.length_map] at ekv'
          subst ekv'
          rw [List.length_map] at ehk
          have ehb' : W9.heap[b]? = some (nodeObj gen SZ (wr BY) (.slice (some ⟨(⟨b, eb2, kb2, gen, es.take A.length ++ (k, vv) :: es.drop A.length⟩ : Nd).eb, 0, none⟩) (⟨b, eb2, kb2, gen, es.take A.length ++ (k, vv) :: es.drop A.length⟩ : Nd).es.length ecap) (.slice (some ⟨(⟨b, eb2, kb2, gen, es.take A.length ++ (k, vv) :: es.drop A.length⟩ : Nd).kb, 0, none⟩) ((A ++ [L]) ++ R :: B).length ekcap)) := by
            rw [hSZ, hBY, ← f9r]
            exact ehb
          have ebn : b ∉ R.fp gen := fun hx => eD.2.1 b hx (mem_own (n := ⟨b, eb2, kb2, gen, es.take A.length ++ (k, vv) :: es.drop A.length⟩) (g := gen) (kid := true) rfl).1
          have ebl : b < W9.heap.size := (Array.getElem?_eq_some_iff.1 ehb').1
          have HE := Lib.hid (And.intro T9r (And.intro G9r (And.intro f9r (And.intro hlow9 (And.intro hhigh9 (And.intro ehb' (And.intro ehe (And.intro ehk (And.intro hSZ hBY)))))))))
          clear eK eD eL eF eS eKS eKl eg etb ehb ehb' ehe ehk hS0 hF0 hSZ hBY hg htb hb0 he0 hk0 ht0 hM hLe hlt0 hnd hRg hRp T9r G9r f9r hlow9 hhigh9
          go_upto_region 21 with (go_at_call 26; refine erec.mono ?_; rintro e W' ⟨K', ad, gr, rfl, q1, q2, q3, q4, q5, q6⟩)
          obtain ⟨eT, eG, ef, elow, ehigh, ehb', ehe, ehk, hSZ, hBY⟩ := HE.out
          have r1 := (q5.fr.block b ebl ebn).trans ehb'
          have y1 : W'.cell? ⟨b, 1, none⟩ = some (.int .i64 SZ) := node_cell r1 1
          have y2 : W'.cell? ⟨b, 2, none⟩ = some (.int .i64 (wr BY)) := node_cell r1 2
          have yf1 := node_frozen r1 1
          have yf2 := node_frozen r1 2
          have HQ := Lib.hid (And.intro q1 (And.intro q2 (And.intro q3 (And.intro q4 (And.intro q5 r1)))))
          clear eT eG ef elow ehigh ehb' ehe ehk hSZ hBY q1 q2 q3 q4 q5 r1 erec
          rcases q6 with ⟨rfl, rfl, l1, l2⟩ | ⟨rfl, rfl, l1, l2⟩
          · have HL := Lib.hid (And.intro l1 l2)
            clear l1 l2
            go_wp2_with fail
            go_ret2
            obtain ⟨eT, eG, ef, elow, ehigh, ehb', ehe, ehk, hSZ, hBY⟩ := HE.out
            obtain ⟨q1, q2, q3, q4, q5, r1⟩ := HQ.out
            refine InsPost.after (end_kid (W3 := (W'.setCell ⟨b, 1, none⟩ (.int .i64 ((SZ : Int) + 1))).setCell ⟨b, 2, none⟩ (.int .i64 (wrap64 (wr BY + key.size)))) eT rfl eG.nd elow ehigh q1 q3 q4 q5 (.inl ⟨rfl, rfl, HL.out⟩) ehe ehk (((Fr.refl (fun j => j = b) W').setCell (.inl rfl) _).setCell (.inl rfl) _) ?_) rfl (ef.trans H0.out.2.2.2.2.2.1) eG
            have r2 := node_set2 (node_set1 r1 ((SZ : Int) + 1)) (wrap64 (wr BY + key.size))
            rw [wr_add1] at r2 ⊢
            rw [if_pos rfl, if_pos rfl, ef, ← hSZ, ← hBY]
            exact r2
          · have HL := Lib.hid (And.intro l1 l2)
            clear l1 l2
            go_wp2_with fail
            go_ret2
            obtain ⟨eT, eG, ef, elow, ehigh, ehb', ehe, ehk, hSZ, hBY⟩ := HE.out
            obtain ⟨q1, q2, q3, q4, q5, r1⟩ := HQ.out
            refine InsPost.after (end_kid (W3 := W'.setCell ⟨b, 2, none⟩ (.int .i64 (wrap64 (wr BY)))) eT rfl eG.nd elow ehigh q1 q3 q4 q5 (.inr ⟨rfl, rfl, HL.out⟩) ehe ehk ((Fr.refl (fun j => j = b) W').setCell (.inl rfl) _) ?_) rfl (ef.trans H0.out.2.2.2.2.2.1) eG
            have e0 : wrap64 (wr BY) = wr BY := wr_wr _
            have r2 := node_set2 r1 (wrap64 (wr BY))
            rw [e0] at r2 ⊢
            rw [if_neg (by simp), if_neg (by simp), ef, ← hSZ, ← hBY]
            exact r2
        · have hlow9 := low_L (k := k) (v := vv) H9.out.2.2.2.2.2.2.1 H9.out.2.2.2.1
          have hhigh9 := high_L (L := L) (R := R) (v := vv) H9.out.2.2.2.2.2.2.1 H9.out.2.2.2.2.1 hck H9.out.2.2.2.2.2.1
          have hLg := H9.out.2.2.2.2.2.2.2.1
          have hLp : L.ptr = .pointer (some ⟨n'.b, 0, none⟩) := by
            unfold GT.ptr
            rw [H9.out.2.2.2.2.2.2.2.2.2.2.2, H5.out.2.1]
          have T9 := H9.out.1
          have G9 := H9.out.2.1
          have f9 := H9.out.2.2.1
          clear hck hrp9
          go_upto_region 20 with (go_at_call 11; refine (compare_in key k _).mono ?_; rintro e w' ⟨rfl, h'⟩; replace h' := h'.symm; subst h'; rw [hc])
          obtain ⟨hb0, he0, hk0, hS0, ht0, hF0, hM, hLe, hSZ, hBY, hlt0, hnd, hg, htb⟩ := H0.out
          have eK : Tree gen N W9 L := T9.2.2.2.2 L (by simp)
          have eD := focus_nd G9.nd
          have eL : (A ++ L :: (R :: B)).length = (⟨b, eb2, kb2, gen, es.take A.length ++ (k, vv) :: es.drop A.length⟩ : Nd).es.length + 1 := T9.2.1
          have eF := focus_flat (n := ⟨b, eb2, kb2, gen, es.take A.length ++ (k, vv) :: es.drop A.length⟩) eL
          have eS : Sorted (nk ⟨b, eb2, kb2, gen, es.take A.length ++ (k, vv) :: es.drop A.length⟩ (A ++ L :: (R :: B))).flat := by rw [f9, hF0]; exact hS0
          have eKS : Sorted L.flat := by rw [eF] at eS; exact eS.right.left
          have eKl : L.flat.length ≤ 4000 := by
            have : (nk ⟨b, eb2, kb2, gen, es.take A.length ++ (k, vv) :: es.drop A.length⟩ (A ++ L :: (R :: B))).flat.length ≤ 4000 := by rw [f9, ← hSZ]; exact hl
            rw [eF] at this
            simp only [List.length_append] at this
            omega
          have eg : W9.cell? ⟨tb, 1, none⟩ = some (.int .u64 gen) := (G9.fr.cell (p := ⟨tb, 1, none⟩) htbl htb).trans hg
          have etb : tb ∉ L.fp gen := fun hx => by
            have hx' : tb ∈ (nk ⟨b, eb2, kb2, gen, es.take A.length ++ (k, vv) :: es.drop A.length⟩ (A ++ L :: (R :: B))).fp gen := by
              rw [focus_fp]
              exact List.mem_append.2 (.inl (List.mem_append.2 (.inr hx)))
            rcases G9.sub tb hx' with h | h
            · exact htb h
            · omega
          have erec := Hih.out L W9 eg etb (Nat.le_trans hN G9.fr.size) eK hLg eD.2.2.2 eKl eKS
          rw [hLp] at erec
          obtain ⟨ecap, ekv, ehb, ehe, ekcap, ekv', ehk⟩ := T9.1
          rw [List.length_map] at ekv'
          subst ekv'
          rw [List.length_map] at ehk
          have ehb' : W9.heap[b]? = some (nodeObj gen SZ (wr BY) (.slice (some ⟨(⟨b, eb2, kb2, gen, es.take A.length ++ (k, vv) :: es.drop A.length⟩ : Nd).eb, 0, none⟩) (⟨b, eb2, kb2, gen, es.take A.length ++ (k, vv) :: es.drop A.length⟩ : Nd).es.length ecap) (.slice (some ⟨(⟨b, eb2, kb2, gen, es.take A.length ++ (k, vv) :: es.drop A.length⟩ : Nd).kb, 0, none⟩) (A ++ L :: (R :: B)).length ekcap)) := by
            rw [hSZ, hBY, ← f9]
            exact ehb
          have ebn : b ∉ L.fp gen := fun hx => eD.2.1 b hx (mem_own (n := ⟨b, eb2, kb2, gen, es.take A.length ++ (k, vv) :: es.drop A.length⟩) (g := gen) (kid := true) rfl).1
          have ebl : b < W9.heap.size := (Array.getElem?_eq_some_iff.1 ehb').1
          have HE := Lib.hid (And.intro T9 (And.intro G9 (And.intro f9 (And.intro hlow9 (And.intro hhigh9 (And.intro ehb' (And.intro ehe (And.intro ehk (And.intro hSZ hBY)))))))))
          clear eK eD eL eF eS eKS eKl eg etb ehb ehb' ehe ehk hS0 hF0 hSZ hBY hg htb hb0 he0 hk0 ht0 hM hLe hlt0 hnd hLg hLp T9 G9 f9 hlow9 hhigh9
          go_upto_region 21 with (go_at_call 26; refine erec.mono ?_; rintro e W' ⟨K', ad, gr, rfl, q1, q2, q3, q4, q5, q6⟩)
          obtain ⟨eT, eG, ef, elow, ehigh, ehb', ehe, ehk, hSZ, hBY⟩ := HE.out
          have r1 := (q5.fr.block b ebl ebn).trans ehb'
          have y1 : W'.cell? ⟨b, 1, none⟩ = some (.int .i64 SZ) := node_cell r1 1
          have y2 : W'.cell? ⟨b, 2, none⟩ = some (.int .i64 (wr BY)) := node_cell r1 2
          have yf1 := node_frozen r1 1
          have yf2 := node_frozen r1 2
          have HQ := Lib.hid (And.intro q1 (And.intro q2 (And.intro q3 (And.intro q4 (And.intro q5 r1)))))
          clear eT eG ef elow ehigh ehb' ehe ehk hSZ hBY q1 q2 q3 q4 q5 r1 erec
          rcases q6 with ⟨rfl, rfl, l1, l2⟩ | ⟨rfl, rfl, l1, l2⟩
          · have HL := Lib.hid (And.intro l1 l2)
            clear l1 l2
            go_wp2_with fail
            go_ret2
            obtain ⟨eT, eG, ef, elow, ehigh, ehb', ehe, ehk, hSZ, hBY⟩ := HE.out
            obtain ⟨q1, q2, q3, q4, q5, r1⟩ := HQ.out
            refine InsPost.after (end_kid (W3 := (W'.setCell ⟨b, 1, none⟩ (.int .i64 ((SZ : Int) + 1))).setCell ⟨b, 2, none⟩ (.int .i64 (wrap64 (wr BY + key.size)))) eT rfl eG.nd elow ehigh q1 q3 q4 q5 (.inl ⟨rfl, rfl, HL.out⟩) ehe ehk (((Fr.refl (fun j => j = b) W').setCell (.inl rfl) _).setCell (.inl rfl) _) ?_) rfl (ef.trans H0.out.2.2.2.2.2.1) eG
            have r2 := node_set2 (node_set1 r1 ((SZ : Int) + 1)) (wrap64 (wr BY + key.size))
            rw [wr_add1] at r2 ⊢
            rw [if_pos rfl, if_pos rfl, ef, ← hSZ, ← hBY]
            exact r2
          · have HL := Lib.hid (And.intro l1 l2)
            clear l1 l2
            go_wp2_with fail
            go_ret2
            obtain ⟨eT, eG, ef, elow, ehigh, ehb', ehe, ehk, hSZ, hBY⟩ := HE.out
            obtain ⟨q1, q2, q3, q4, q5, r1⟩ := HQ.out
            refine InsPost.after (end_kid (W3 := W'.setCell ⟨b, 2, none⟩ (.int .i64 (wrap64 (wr BY)))) eT rfl eG.nd elow ehigh q1 q3 q4 q5 (.inr ⟨rfl, rfl, HL.out⟩) ehe ehk ((Fr.refl (fun j => j = b) W').setCell (.inl rfl) _) ?_) rfl (ef.trans H0.out.2.2.2.2.2.1) eG
            have e0 : wrap64 (wr BY) = wr BY := wr_wr _
            have r2 := node_set2 r1 (wrap64 (wr BY))
            rw [e0] at r2 ⊢
            rw [if_neg (by simp), if_neg (by simp), ef, ← hSZ, ← hBY]
            exact r2
    · have hm31' : ¬ ((m : Int) = 31) := by omega
      have T3 := H3.out.2.1
      have G3 := H3.out.2.2.1
      have hK1g := H3.out.2.2.2.2.2.1
      have hK1p := H3.out.2.2.2.2.2.2.1
      have f3 := H3.out.2.2.2.2.2.2.2.1
      have hlow := H1.out.2.2.2.2.2.2.2.1
      have hhigh := H1.out.2.2.2.2.2.2.2.2
      obtain ⟨hb0, he0, hk0, hS0, ht0, hF0, hM, hLe, hSZ, hBY, hlt0, hnd, hg, htb⟩ := H0.out
      have eK : Tree gen N W3 K1 := T3.2.2.2.2 K1 (by simp)
      have eD := focus_nd G3.nd
      have eL : (A ++ K1 :: B).length = (⟨b, eb, kb, gen, es⟩ : Nd).es.length + 1 := T3.2.1
      have eF := focus_flat (n := ⟨b, eb, kb, gen, es⟩) eL
      have eS : Sorted (nk ⟨b, eb, kb, gen, es⟩ (A ++ K1 :: B)).flat := by rw [f3, hF0]; exact hS0
      have eKS : Sorted K1.flat := by rw [eF] at eS; exact eS.right.left
      have eKl : K1.flat.length ≤ 4000 := by
        have : (nk ⟨b, eb, kb, gen, es⟩ (A ++ K1 :: B)).flat.length ≤ 4000 := by rw [f3, ← hSZ]; exact hl
        rw [eF] at this
        simp only [List.length_append] at this
        omega
      have eg : W3.cell? ⟨tb, 1, none⟩ = some (.int .u64 gen) := (G3.fr.cell (p := ⟨tb, 1, none⟩) htbl htb).trans hg
      have etb : tb ∉ K1.fp gen := fun hx => by
        have hx' : tb ∈ (nk ⟨b, eb, kb, gen, es⟩ (A ++ K1 :: B)).fp gen := by
          rw [focus_fp]
          exact List.mem_append.2 (.inl (List.mem_append.2 (.inr hx)))
        rcases G3.sub tb hx' with h | h
        · exact htb h
        · omega
      have erec := Hih.out K1 W3 eg etb (Nat.le_trans hN G3.fr.size) eK hK1g eD.2.2.2 eKl eKS
      rw [hK1p] at erec
      obtain ⟨ecap, ekv, ehb, ehe, ekcap, ekv', ehk⟩ := T3.1
      rw [List.length_map] at ekv'
      subst ekv'
      rw [List.length_map] at ehk
      have ehb' : W3.heap[b]? = some (nodeObj gen SZ (wr BY) (.slice (some ⟨(⟨b, eb, kb, gen, es⟩ : Nd).eb, 0, none⟩) (⟨b, eb, kb, gen, es⟩ : Nd).es.length ecap) (.slice (some ⟨(⟨b, eb, kb, gen, es⟩ : Nd).kb, 0, none⟩) (A ++ K1 :: B).length ekcap)) := by
        rw [hSZ, hBY, ← f3]
        exact ehb
      have ebn : b ∉ K1.fp gen := fun hx => eD.2.1 b hx (mem_own (n := ⟨b, eb, kb, gen, es⟩) (g := gen) (kid := true) rfl).1
      have ebl : b < W3.heap.size := (Array.getElem?_eq_some_iff.1 ehb').1
      have HE := Lib.hid (And.intro T3 (And.intro G3 (And.intro f3 (And.intro hlow (And.intro hhigh (And.intro ehb' (And.intro ehe (And.intro ehk (And.intro hSZ hBY)))))))))
      clear eK eD eL eF eS eKS eKl eg etb ehb ehb' ehe ehk hS0 hF0 hSZ hBY hg htb hb0 he0 hk0 ht0 hM hLe hlt0 hnd hK1g hK1p T3 G3 f3 hlow hhigh
      go_upto_region 21 with (go_at_call 26; refine erec.mono ?_; rintro e W' ⟨K', ad, gr, rfl, q1, q2, q3, q4, q5, q6⟩)
      obtain ⟨eT, eG, ef, elow, ehigh, ehb', ehe, ehk, hSZ, hBY⟩ := HE.out
      have r1 := (q5.fr.block b ebl ebn).trans ehb'
      have y1 : W'.cell? ⟨b, 1, none⟩ = some (.int .i64 SZ) := node_cell r1 1
      have y2 : W'.cell? ⟨b, 2, none⟩ = some (.int .i64 (wr BY)) := node_cell r1 2
      have yf1 := node_frozen r1 1
      have yf2 := node_frozen r1 2
      have HQ := Lib.hid (And.intro q1 (And.intro q2 (And.intro q3 (And.intro q4 (And.intro q5 r1)))))
      clear eT eG ef elow ehigh ehb' ehe ehk hSZ hBY q1 q2 q3 q4 q5 r1 erec
      rcases q6 with ⟨rfl, rfl, l1, l2⟩ | ⟨rfl, rfl, l1, l2⟩
      · have HL := Lib.hid (And.intro l1 l2)
        clear l1 l2
        go_wp2_with fail
        go_ret2
        obtain ⟨eT, eG, ef, elow, ehigh, ehb', ehe, ehk, hSZ, hBY⟩ := HE.out
        obtain ⟨q1, q2, q3, q4, q5, r1⟩ := HQ.out
        refine InsPost.after (end_kid (W3 := (W'.setCell ⟨b, 1, none⟩ (.int .i64 ((SZ : Int) + 1))).setCell ⟨b, 2, none⟩ (.int .i64 (wrap64 (wr BY + key.size)))) eT rfl eG.nd elow ehigh q1 q3 q4 q5 (.inl ⟨rfl, rfl, HL.out⟩) ehe ehk (((Fr.refl (fun j => j = b) W').setCell (.inl rfl) _).setCell (.inl rfl) _) ?_) rfl (ef.trans H0.out.2.2.2.2.2.1) eG
        have r2 := node_set2 (node_set1 r1 ((SZ : Int) + 1)) (wrap64 (wr BY + key.size))
        rw [wr_add1] at r2 ⊢
        rw [if_pos rfl, if_pos rfl, ef, ← hSZ, ← hBY]
        exact r2
      · have HL := Lib.hid (And.intro l1 l2)
        clear l1 l2
        go_wp2_with fail
        go_ret2
        obtain ⟨eT, eG, ef, elow, ehigh, ehb', ehe, ehk, hSZ, hBY⟩ := HE.out
        obtain ⟨q1, q2, q3, q4, q5, r1⟩ := HQ.out
        refine InsPost.after (end_kid (W3 := W'.setCell ⟨b, 2, none⟩ (.int .i64 (wrap64 (wr BY)))) eT rfl eG.nd elow ehigh q1 q3 q4 q5 (.inr ⟨rfl, rfl, HL.out⟩) ehe ehk ((Fr.refl (fun j => j = b) W').setCell (.inl rfl) _) ?_) rfl (ef.trans H0.out.2.2.2.2.2.1) eG
        have e0 : wrap64 (wr BY) = wr BY := wr_wr _
        have r2 := node_set2 r1 (wrap64 (wr BY))
        rw [e0] at r2 ⊢
        rw [if_neg (by simp), if_neg (by simp), ef, ← hSZ, ← hBY]
        exact r2
end Go.Proofs.Ybulkbrzk.BT
