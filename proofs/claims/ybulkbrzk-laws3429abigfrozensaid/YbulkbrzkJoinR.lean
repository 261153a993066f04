/-
  joinLevel: the right tree is the higher one; joinLevel.
-/
import Derived.Test.YbulkbrzkJoinL
namespace Go.Proofs.Ybulkbrzk.BT
open Go Go.RowKit
set_option linter.unusedVariables false

theorem first_kid {h : Nat} (ks : List (GT h)) (m : Nat) (hl : ks.length = m + 1) : ∃ K B, ks = [] ++ K :: B := by
  cases ks with
  | nil => simp at hl
  | cons K B => exact ⟨K, B, rfl⟩

theorem Grow.swapF {F G F' : List Nat} {w w' : World} (h : Grow (F ++ G) w w' F') : Grow (G ++ F) w w' F' :=
  h.from (fun x hx => by rcases List.mem_append.1 hx with hx | hx; exact List.mem_append.2 (.inr hx); exact List.mem_append.2 (.inl hx))

set_option maxRecDepth 100000 in
set_option maxHeartbeats 16000000 in
theorem join_right {a lh : Nat} (tb g N : Nat) (l : GT lh) (r : GT (a + 1)) (k : ByteArray) (v : Int) (w : World) (hra : lh ≤ a) (ha : a ≤ 4096) (hg : w.cell? ⟨tb, 1, none⟩ = some (.int .u64 g)) (htb : tb ∉ l.fp g ++ r.fp g) (hN : N ≤ w.heap.size) (hl : Tree g N w l) (hr : Tree g N w r) (hnd : (l.fp g ++ r.fp g).Nodup) (hlen : (l.flat ++ (k, v) :: r.flat).length ≤ 4000)
    (ih : ∀ (K : GT a) (W : World), W.cell? ⟨tb, 1, none⟩ = some (.int .u64 g) → tb ∉ l.fp g ++ K.fp g → N ≤ W.heap.size → Tree g N W l → Tree g N W K → (l.fp g ++ K.fp g).Nodup → (l.flat ++ (k, v) :: K.flat).length ≤ 4000 →
      Calls Yba.prog 53 #[.pointer (some ⟨tb, 0, none⟩), l.ptr, .int .i64 lh, .agg #[.string k, .int .i64 v], K.ptr, .int .i64 a] W (JoinPost g N a (l.fp g ++ K.fp g) (l.flat ++ (k, v) :: K.flat) W)) :
    Calls Yba.prog 53 #[.pointer (some ⟨tb, 0, none⟩), l.ptr, .int .i64 lh, .agg #[.string k, .int .i64 v], r.ptr, .int .i64 (a + 1 : Nat)] w (JoinPost g N (a + 1) (l.fp g ++ r.fp g) (l.flat ++ (k, v) :: r.flat) w) := by
  have htbl : tb < w.heap.size := World.block_lt_of_cell? _ _ hg
  obtain ⟨bx, hbx⟩ : ∃ bx, bx = w.heap.size := ⟨_, rfl⟩
  obtain ⟨W0, hW0⟩ : ∃ W0, W0 = (w.alloc (.cells #[.string k, .int .i64 v] 30)).alloc (.cells #[.string ⟨#[]⟩, .int .i64 0] 30) := ⟨_, rfl⟩
  have hF0 : Fr (fun _ => False) w W0 := by rw [hW0]; exact ((Fr.refl _ _).alloc _).alloc _
  have ox : W0.heap[bx]? = some (.cells #[.string k, .int .i64 v] 30 (0, 0)) := by
    rw [hW0, hbx]
    refine heap_alloc' ?_
    show (w.heap.push _)[w.heap.size]? = _
    simp
  obtain ⟨b13, hb13d⟩ : ∃ b13, b13 = bx + 1 := ⟨_, rfl⟩
  have o13 : W0.heap[b13]? = some (.cells #[.string ⟨#[]⟩, .int .i64 0] 30 (0, 0)) := by
    rw [hW0, hb13d, hbx]
    show ((w.heap.push _).push _)[w.heap.size + 1]? = _
    rw [Array.getElem?_push]
    simp
  have z0 : W0.heap.size = b13 + 1 := by rw [hW0, hb13d, hbx]; simp
  have hg0 : W0.cell? ⟨tb, 1, none⟩ = some (.int .u64 g) := (hF0.cell (p := ⟨tb, 1, none⟩) htbl (fun h => h)).trans hg
  have hll : l.flat.length ≤ 4000 ∧ r.flat.length ≤ 4000 := by simp at hlen; omega
  have hfl0 := fun x hx => (hl.fp_lt x hx).2
  have hfr0 := fun x hx => (hr.fp_lt x hx).2
  have hlt0 : ∀ x, x ∈ l.fp g ++ r.fp g → x < w.heap.size := fun x hx => (List.mem_append.1 hx).elim (hfl0 x) (hfr0 x)
  have hbb : tb < bx ∧ bx < b13 ∧ w.heap.size ≤ bx ∧ N ≤ bx := by omega
  have hnr := (List.nodup_append.1 hnd).2.1
  have hown := own_tree tb g N r W0 hg0 (Nat.le_trans hN hF0.size) (hr.still hF0) hnr (by omega)
  clear hnr
  have H0 := Lib.hid (And.intro hW0 (And.intro hbx (And.intro hb13d (And.intro ox (And.intro o13 (And.intro z0 (And.intro hg0 (And.intro hl (And.intro hr (And.intro hlt0 (And.intro htb (And.intro hnd (And.intro hlen hg)))))))))))))
  have Hih := Lib.hid ih
  have h1 : (lh : Int) < (a : Int) + 1 := by omega
  have h2 : ¬ ((lh : Int) = (a : Int) + 1) := by omega
  have h3 : ¬ ((a : Int) + 1 < (lh : Int)) := by omega
  unfold GT.ptr at hown
  clear hW0 hbx hb13d ox o13 z0 hg0 hl hr hlt0 hfl0 hfr0 htb hnd hlen hg ih
  rw [show ((a + 1 : Nat) : Int) = (a : Int) + 1 from by omega]
  show Calls Yba.prog 53 #[.pointer (some ⟨tb, 0, none⟩), .pointer (some ⟨l.nd.b, 0, none⟩), .int .i64 lh, .agg #[.string k, .int .i64 v], .pointer (some ⟨r.nd.b, 0, none⟩), .int .i64 ((a : Int) + 1)] w _
  go_enter Yba.func53, Yba.ntmps53
  go_upto_region 2 with fail
  have e13 : w.heap.size + 1 = b13 := by have := H0.out.2.1; have := H0.out.2.2.1; omega
  rw [← H0.out.1, e13, ← H0.out.2.1]
  clear e13
  go_upto_region 3 with (go_at_call 23; refine hown.mono ?_; rintro e W1 ⟨n', rfl, o1, o2, o3, o4, o5⟩)
  clear hown
  obtain ⟨hW0, hbx, hb13d, ox, o13, z0, hg0, hl, hr, hlt0, htb, hnd, hlen, hg⟩ := H0.out
  obtain ⟨K, B, hlk⟩ := first_kid r.2 r.1.es.length hr.2.1
  have ht1 : r.withNd n' = nk n' ([] ++ K :: B) := by show (n', r.2) = _; rw [hlk]
  rw [ht1] at o3 o4
  have h1f : (nk n' ([] ++ K :: B)).flat = r.flat := by rw [← ht1, GT.withNd_flat r n' o2]
  have hltx : ∀ x, x ∈ l.fp g ++ r.fp g → x < w.heap.size := hlt0
  have htbx : tb ∉ l.fp g ++ r.fp g := htb
  have hF01 : Fr (fun _ => False) w W1 := hF0.trans o5 (fun _ _ h => h)
  have g1' : Grow (l.fp g ++ r.fp g) W0 W1 ((nk n' ([] ++ K :: B)).fp g ++ l.fp g) := by
    have := Grow.ctx (X := l.fp g) (Y := []) o4 (by simpa using hnd) (fun x hx => by
      rcases hx with hx | hx
      · have := hlt0 x (List.mem_append.2 (.inl hx)); have := hF0.size; omega
      · cases hx)
    rw [List.append_nil, List.append_nil] at this
    exact this.perm List.perm_append_comm
  have g1 : Grow (l.fp g ++ r.fp g) w W1 ((nk n' ([] ++ K :: B)).fp g ++ l.fp g) := (Grow.still hF0 hlt0 hnd).trans g1'
  have hxw : Tree g N W1 l := hl.still hF01
  clear hF01 hlk ht1
  -- n' upon A ++ K :: B, the other tree x
  have hod : n'.b ≠ n'.eb ∧ n'.b ≠ n'.kb ∧ n'.eb ≠ n'.kb := by have q := own_nd o1 (focus_nd (List.nodup_append.1 g1.nd).1).2.2.1; exact ⟨q.1, (q.2 rfl).1, (q.2 rfl).2⟩
  have hmo : n'.b ∈ n'.own g true ∧ n'.eb ∈ n'.own g true ∧ n'.kb ∈ n'.own g true := by have q := mem_own (g := g) (kid := true) (n := n') o1; exact ⟨q.1, q.2.1, q.2.2 rfl⟩
  have hdx : ∀ y, y ∈ l.fp g → y ∉ n'.own g true := fun y hy hm => (List.nodup_append.1 g1.nd).2.2 y (List.mem_append.2 (.inl hm)) y hy rfl
  have hapx := hxw.apart (n'.own g true) (fun y hy => (o3.fp_lt y (List.mem_append.2 (.inl hy))).1) hdx
  have hxb : l.nd.b ≠ n'.b := fun e => hapx.1 (by rw [e]; exact hmo.1)
  obtain ⟨cap, kv, nb1, he1, kcap, hkv1, hk1⟩ := o3.1
  rw [List.length_map] at hkv1
  subst hkv1
  rw [List.length_map] at hk1
  have nb1' : W1.heap[n'.b]? = some (nodeObj g (nk n' ([] ++ K :: B)).flat.length (wr (bytes (nk n' ([] ++ K :: B)).flat)) (.slice (some ⟨n'.eb, 0, none⟩) n'.es.length cap) (.slice (some ⟨n'.kb, 0, none⟩) ([] ++ K :: B).length kcap)) := by
    have e : n'.gen = g := o1
    rw [← e]
    exact nb1
  obtain ⟨cx, kx, nbx, _⟩ := hxw.at
  have hfle : (nk n' ([] ++ K :: B)).flat.length ≤ 4000 := by rw [h1f]; omega
  have hlx : l.flat.length ≤ 4000 := by omega
  have hcnt := count_in n'.b g 1 (nk n' ([] ++ K :: B)).flat.length (bytes (nk n' ([] ++ K :: B)).flat) _ _ k v (some l.nd.b) l.flat.length (bytes l.flat) W1 (.inl rfl) nb1' ⟨by omega, by omega⟩ (fun c h => by
    cases h
    exact ⟨⟨by omega, by omega⟩, hxb, _, _, _, nbx⟩) (fun h => by cases h)
  have ox1 := (o5.block bx (Array.getElem?_eq_some_iff.1 ox).1 (fun h => h)).trans ox
  have o131 := (o5.block b13 (Array.getElem?_eq_some_iff.1 o13).1 (fun h => h)).trans o13
  have x0 : W1.cell? ⟨bx, 0, none⟩ = some (.string k) := by simp [World.cell?, ox1]
  have x1 : W1.cell? ⟨bx, 1, none⟩ = some (.int .i64 v) := by simp [World.cell?, ox1]
  have hwn : bx ∉ (nk n' ([] ++ K :: B)).fp g ++ l.fp g ∧ b13 ∉ (nk n' ([] ++ K :: B)).fp g ++ l.fp g := ⟨(g1'.out (fun hx => by have := hltx bx hx; omega) (by omega)).1, (g1'.out (fun hx => by have := hltx b13 hx; omega) (by omega)).1⟩
  have hbn' : bx ≠ n'.b ∧ b13 ≠ n'.b := ⟨fun e => hwn.1 (by rw [e]; exact List.mem_append.2 (.inl (List.mem_append.2 (.inl hmo.1)))), fun e => hwn.2 (by rw [e]; exact List.mem_append.2 (.inl (List.mem_append.2 (.inl hmo.1))))⟩
  obtain ⟨Le, hLe⟩ : ∃ Le, Le = n'.es.length := ⟨_, rfl⟩
  have hM : ([] ++ K :: B).length = Le + 1 := by rw [hLe]; exact o3.2.1
  have hML : Le = n'.es.length := hLe
  have hel : n'.es.length ≤ 4000 := by
    have := o3.flat_len
    change (nk n' ([] ++ K :: B)).flat.length = n'.es.length + _ ∧ _ at this
    omega
  rw [hM] at hk1 nb1' hcnt
  rw [← hLe] at hel nb1' hcnt he1
  clear hLe
  have H1 := Lib.hid (And.intro o1 (And.intro o3 (And.intro g1 (And.intro g1' (And.intro hxw (And.intro h1f (And.intro hod (And.intro hmo (And.intro hdx (And.intro nb1' (And.intro he1 (And.intro hk1 (And.intro ox1 (And.intro o131 (And.intro hM hML)))))))))))))))
  clear hW0 hbx hb13d ox o13 z0 hg0 hl hr hlt0 htb hnd hlen hg o2 o3 o4 o1 g1 g1' hxw h1f hod hmo hdx hapx nb1 nb1' he1 hk1 ox1 o131 hM hML nbx hfle hltx
  go_upto_region 4 with (go_at_call 36; refine hcnt.mono ?_; rintro e W2 ⟨rfl, nb2, hF12⟩)
  clear hcnt x0 x1
  obtain ⟨o1, o3, g1, g1', hxw, h1f, hod, hmo, hdx, nb1', he1, hk1, ox1, o131, hM, hML⟩ := H1.out
  obtain ⟨hW0, hbx, hb13d, ox, o13, z0, hg0, hl, hr, hlt0, htb, hnd, hlen, hg⟩ := H0.out
  have hcast1 : (((nk n' ([] ++ K :: B)).flat.length : Nat) : Int) + 1 * (1 + ((l.flat.length : Nat) : Int)) = (((nk n' ([] ++ K :: B)).flat.length + (1 + l.flat.length) : Nat) : Int) := by omega
  have hcast2 : ((bytes (nk n' ([] ++ K :: B)).flat : Nat) : Int) + 1 * ((k.size : Int) + ((bytes l.flat : Nat) : Int)) = ((bytes (nk n' ([] ++ K :: B)).flat + (k.size + bytes l.flat) : Nat) : Int) := by omega
  rw [hcast1, hcast2] at nb2
  obtain ⟨SZ, hSZ⟩ : ∃ SZ, SZ = (nk n' ([] ++ K :: B)).flat.length + (1 + l.flat.length) := ⟨_, rfl⟩
  obtain ⟨BY, hBY⟩ : ∃ BY, BY = bytes (nk n' ([] ++ K :: B)).flat + (k.size + bytes l.flat) := ⟨_, rfl⟩
  rw [← hSZ, ← hBY] at nb2
  have hk2 := row_fr hk1 hF12 (fun h => hod.2.1 h.symm)
  have he2 := row_fr he1 hF12 (fun h => hod.1 h.symm)
  have ox2 := (hF12.block bx (Array.getElem?_eq_some_iff.1 ox1).1 hbn'.1).trans ox1
  have o132 := (hF12.block b13 (Array.getElem?_eq_some_iff.1 o131).1 hbn'.2).trans o131
  have x0 : W2.cell? ⟨bx, 0, none⟩ = some (.string k) := by simp [World.cell?, ox2]
  have x1 : W2.cell? ⟨bx, 1, none⟩ = some (.int .i64 v) := by simp [World.cell?, ox2]
  have c24 : W2.cell? ⟨n'.b, 4, none⟩ = some (.slice (some ⟨n'.kb, 0, none⟩) (Le + 1) kcap) := node_cell nb2 4
  have ck2 : W2.cell? ⟨n'.kb, 0, none⟩ = some (.pointer (some ⟨K.nd.b, 0, none⟩)) := by
    rw [row_cell hk2 (0) (by omega)]
    simp [ptrs]
  -- the recursion, at the world that has drawn
  have hTn : ∀ y, y ∈ K.fp g ++ l.fp g → y ∉ n'.own g true := fun y hy => by
    rcases List.mem_append.1 hy with hy | hy
    · exact (focus_nd (List.nodup_append.1 g1.nd).1).2.1 y hy
    · exact hdx y hy
  have hNi : ∀ i, i < N → ¬ i = n'.b := fun i hi h => by
    have := (o3.fp_lt n'.b (List.mem_append.2 (.inl hmo.1))).1
    omega
  have hTK : Tree g N W2 K := (o3.2.2.2.2 K (by show K ∈ [] ++ K :: B; simp)).fr hF12 hNi (fun y hy h => hTn y (List.mem_append.2 (.inl hy)) (by rw [h]; exact hmo.1))
  have hTX : Tree g N W2 l := hxw.fr hF12 hNi (fun y hy h => hdx y hy (by rw [h]; exact hmo.1))
  have hsubK : ∀ y, y ∈ K.fp g → y ∈ (nk n' ([] ++ K :: B)).fp g := fun y hy => by rw [focus_fp]; exact List.mem_append.2 (.inl (List.mem_append.2 (.inr hy)))
  have hndK : (K.fp g ++ l.fp g).Nodup := by
    rw [List.nodup_append]
    exact ⟨(focus_nd (List.nodup_append.1 g1.nd).1).2.2.2, (List.nodup_append.1 g1.nd).2.1, fun y hy z hz => (List.nodup_append.1 g1.nd).2.2 y (hsubK y hy) z hz⟩
  have htb1 : tb ∉ (nk n' ([] ++ K :: B)).fp g ++ l.fp g := (g1.out htbx htbl).1
  have htbK : tb ∉ K.fp g ++ l.fp g := fun hx => by
    rcases List.mem_append.1 hx with hx | hx
    · exact htb1 (List.mem_append.2 (.inl (hsubK tb hx)))
    · exact htb1 (List.mem_append.2 (.inr hx))
  have hgd : W2.cell? ⟨tb, 1, none⟩ = some (.int .u64 g) := by
    rw [hF12.cell (p := ⟨tb, 1, none⟩) (by have := g1.fr.size; show tb < _; omega) (fun h => htb1 (by have h' : tb = n'.b := h; rw [h']; exact List.mem_append.2 (.inl (List.mem_append.2 (.inl hmo.1)))))]
    exact (g1.fr.cell (p := ⟨tb, 1, none⟩) htbl htbx).trans hg
  have hz1 := g1.fr.size
  have hz2 := hF12.size
  have hff := focus_flat (n := n') (A := []) (K := K) (B := B) (show ([] ++ K :: B).length = n'.es.length + 1 from o3.2.1)
  have hKl : K.flat.length + 1 + l.flat.length ≤ 4000 := by
    have q1 : (nk n' ([] ++ K :: B)).flat.length + 1 + l.flat.length ≤ 4000 := by rw [h1f]; simp at hlen; omega
    rw [hff] at q1
    simp only [List.length_append] at q1
    omega
  have htb2 : tb < W2.heap.size := by omega
  have htbK' : tb ∉ l.fp g ++ K.fp g := fun hx => htbK (by rcases List.mem_append.1 hx with hx | hx; exact List.mem_append.2 (.inr hx); exact List.mem_append.2 (.inl hx))
  have hndK0 : (l.fp g ++ K.fp g).Nodup := (List.perm_append_comm.nodup_iff).1 hndK
  have hrec := fun (Wz : World) (hz : Fr (fun _ => False) W2 Wz) => Hih.out K Wz ((hz.cell (p := ⟨tb, 1, none⟩) htb2 (fun h => h)).trans hgd) htbK' (by have := hz.size; omega) (hTX.still hz) (hTK.still hz) hndK0 (by simp only [List.length_append, List.length_cons]; omega)
  unfold GT.ptr at hrec
  have hndK' : (l.fp g ++ K.fp g).Nodup := (List.perm_append_comm.nodup_iff).1 hndK
  have hTn' : ∀ y, y ∈ l.fp g ++ K.fp g → y ∉ n'.own g true := fun y hy => hTn y (by rcases List.mem_append.1 hy with hy | hy; exact List.mem_append.2 (.inr hy); exact List.mem_append.2 (.inl hy))
  have hltK : ∀ y, y ∈ l.fp g ++ K.fp g → y < W2.heap.size := fun y hy => by
    have := g1.lt y (by rcases List.mem_append.1 hy with hy | hy; exact List.mem_append.2 (.inr hy); exact List.mem_append.2 (.inl (hsubK y hy)))
    omega
  have HX := Lib.hid (And.intro hltK hndK')
  have HNW : N ≤ W2.heap.size := by omega
  have HXn := Lib.hid (show n'.b ∉ l.fp g ++ K.fp g ∧ n'.kb ∉ l.fp g ++ K.fp g ∧ bx ∉ l.fp g ++ K.fp g from ⟨fun h => hTn' n'.b h hmo.1, fun h => hTn' n'.kb h hmo.2.2, fun h => hwn.1 (by rcases List.mem_append.1 h with h | h; exact List.mem_append.2 (.inr h); exact List.mem_append.2 (.inl (hsubK bx h)))⟩)
  clear hltK
  have hSZl : SZ ≤ 4000 := by rw [hSZ, h1f]; simp at hlen; omega
  have H2 := Lib.hid (And.intro nb2 (And.intro hF12 (And.intro hk2 (And.intro he2 (And.intro ox2 (And.intro o132 (And.intro hTn (And.intro htb1 (And.intro hff (And.intro hSZ (And.intro hBY (And.intro hNi (And.intro htbK (And.intro hwn hsubK))))))))))))))
  have nbl2 := (Array.getElem?_eq_some_iff.1 nb2).1
  have bxl2 := (Array.getElem?_eq_some_iff.1 ox2).1
  have kbl2 := (hk2.lt n'.kb rfl).2
  have ebl2 := (he2.lt n'.eb rfl).2
  have b13l2 := (Array.getElem?_eq_some_iff.1 o132).1
  have nn1 : n'.b ≠ W2.heap.size ∧ n'.kb ≠ W2.heap.size ∧ bx ≠ W2.heap.size := by omega
  obtain ⟨nn1, nn2, nn3⟩ := nn1
  clear hW0 hbx hb13d ox o13 z0 hg0 hl hr hlt0 htb hnd hlen hg o1 o3 g1 g1' hxw h1f hod hmo hdx nb1' he1 hk1 ox1 o131 hM hML hcast1 hcast2 hSZ hBY nb2 hk2 he2 ox2 o132 hTn hNi hTK hTX hndK htb1 htbK hgd hff hsubK hndK' hTn' htbK' hndK0
  have hwr : IntKind.i64.wrap (a : Int) = (a : Int) := by rw [IntKind.wrap_i64]; omega
  have hI1 : (0 : Int) ≤ (Le : Int) := by omega
  have hI2 : (Le : Int) < (Le : Int) + 1 := by omega
  have hI3 : (0 : Int) < (Le : Int) + 1 := by omega
  go_cut [20, 21, 22] (fun a1 a2 a3 wx => ∃ (n2 : GT a) (uk : ByteArray) (uv : Int) (po : Option Addr) (b18 : Nat), a1 = .pointer (some ⟨n2.nd.b, 0, none⟩) ∧ a2 = .pointer (some ⟨b18, 0, none⟩) ∧ a3 = .pointer po ∧ wx.heap[b18]? = some (.cells #[.string uk, .int .i64 uv] 30 (0, 0)) ∧ W2.heap.size ≤ b18 ∧ n2.nd.gen = g ∧ Tree g N wx n2 ∧
    ((po = none ∧ n2.flat = (l.flat ++ (k, v) :: K.flat) ∧ Grow (l.fp g ++ K.fp g) W2 wx (n2.fp g)) ∨ (∃ s : GT a, po = some ⟨s.nd.b, 0, none⟩ ∧ s.nd.gen = g ∧ Tree g N wx s ∧ n2.flat ++ (uk, uv) :: s.flat = (l.flat ++ (k, v) :: K.flat) ∧ Grow (l.fp g ++ K.fp g) W2 wx (n2.fp g ++ s.fp g))))
  case first =>
    go_region_held3 (fun w' => w'.cell? ⟨n'.b, 4, none⟩ = some (.slice (some ⟨n'.kb, 0, none⟩) (Le + 1) kcap) ∧ w'.cell? ⟨n'.kb, 0, none⟩ = some (.pointer (some ⟨K.nd.b, 0, none⟩)) ∧ w'.cell? ⟨bx, 0, none⟩ = some (.string k) ∧ w'.cell? ⟨bx, 1, none⟩ = some (.int .i64 v)) (first | go_keep | exact ⟨keep2 y0 nn1, keep2 y1 nn2, keep2 y2 nn3, keep2 y3 nn3⟩)
      (first
      | (go_at_call 53; (with_reducible refine (hrec W2.drew (Fr.refl _ W2).drew).mono ?_); rintro e w3 ⟨n2, uk, uv, po, rfl, r1, r2, r3⟩; have y0 := ((rec_fr r3).cell (p := ⟨n'.b, 4, none⟩) nbl2 HXn.out.1).trans c24; have y1 := ((rec_fr r3).cell (p := ⟨n'.kb, 0, none⟩) kbl2 HXn.out.2.1).trans ck2; have y2 := ((rec_fr r3).cell (p := ⟨bx, 0, none⟩) bxl2 HXn.out.2.2).trans x0; have y3 := ((rec_fr r3).cell (p := ⟨bx, 1, none⟩) bxl2 HXn.out.2.2).trans x1; unfold GT.ptr)
      | (go_at_call 53; (with_reducible refine (hrec (W2.alloc (.cells #[.string ⟨#[]⟩, .int .i64 0] 30)).drew (((Fr.refl _ W2).alloc _).drew)).mono ?_); rintro e w3 ⟨n2, uk, uv, po, rfl, r1, r2, r3⟩; have hzz := rec_zero HX.out.1 r3; have z0 := hzz.1; have z1 := hzz.2.1; have z2 := hzz.2.2.1; have z3 := hzz.2.2.2.1; have y0 := rec_cell (p := ⟨n'.b, 4, none⟩) r3 nbl2 HXn.out.1 c24; have y1 := rec_cell (p := ⟨n'.kb, 0, none⟩) r3 kbl2 HXn.out.2.1 ck2; have y2 := rec_cell (p := ⟨bx, 0, none⟩) r3 bxl2 HXn.out.2.2 x0; have y3 := rec_cell (p := ⟨bx, 1, none⟩) r3 bxl2 HXn.out.2.2 x1; clear hzz; unfold GT.ptr))
    all_goals go_wp2_with fail
    all_goals go_meet
    all_goals
      case rel =>
        first
          | exact rec_end1 HX.out.1 HX.out.2 r1 r2 r3
          | exact rec_end2 HNW HX.out.1 HX.out.2 r1 r2 r3
  case rest =>
    obtain ⟨n2, uk, uv, po, b18, rfl, rfl, rfl, o18, hb18, r1, r2, r3⟩ := hcut
    rename World => W4
    clear hrec
    obtain ⟨o1, o3, g1, g1', hxw, h1f, hod, hmo, hdx, nb1', he1, hk1, ox1, o131, hM, hML⟩ := H1.out
    obtain ⟨nb2, hF12, hk2, he2, ox2, o132, hTn, htb1, hff, hSZ, hBY, hNi, htbK, hwn, hsubK⟩ := H2.out
    have hFr4 : Fr (· ∈ l.fp g ++ K.fp g) W2 W4 := rec_fr r3
    have nb4 := (hFr4.block n'.b nbl2 HXn.out.1).trans nb2
    have hk4 := row_fr hk2 hFr4 HXn.out.2.1
    have he4 := row_fr he2 hFr4 (fun h => (fun y hy => hTn y (by rcases List.mem_append.1 hy with hy | hy; exact List.mem_append.2 (.inr hy); exact List.mem_append.2 (.inl hy))) n'.eb h hmo.2.1)
    have o134 := (hFr4.block b13 b13l2 (fun h => hwn.2 (by rcases List.mem_append.1 h with h | h; exact List.mem_append.2 (.inr h); exact List.mem_append.2 (.inl (hsubK b13 h))))).trans o132
    have c44 : W4.cell? ⟨n'.b, 4, none⟩ = some (.slice (some ⟨n'.kb, 0, none⟩) (Le + 1) kcap) := node_cell nb4 4
    have ck4 : W4.cell? ⟨n'.kb, 0, none⟩ = some (.pointer (some ⟨K.nd.b, 0, none⟩)) := (hFr4.cell (p := ⟨n'.kb, 0, none⟩) kbl2 HXn.out.2.1).trans ck2
    have fk4 : W4.frozen? ⟨n'.kb, 0, none⟩ = false := by
      obtain ⟨_, _, cur, hcur, _⟩ := row_open hk4
      simp [World.frozen?, hcur]
    obtain ⟨W5, hW5⟩ : ∃ W5, W5 = W4.setCell ⟨n'.kb, 0, none⟩ (.pointer (some ⟨n2.nd.b, 0, none⟩)) := ⟨_, rfl⟩
    have hF45 : Fr (fun j => j = n'.kb) W4 W5 := by rw [hW5]; exact (Fr.refl (fun j => j = n'.kb) W4).setCell (p := ⟨n'.kb, 0, none⟩) (.inl rfl) _
    have hz4 := hFr4.size
    have nb5 := (hF45.block n'.b (Array.getElem?_eq_some_iff.1 nb4).1 hod.2.1).trans nb4
    have he5 := row_fr he4 hF45 hod.2.2
    have hAi : 0 = ([] : List (GT a)).length := rfl
    have hk5 : W5.ownsRow 0 23 1 (.slice (some ⟨n'.kb, 0, none⟩) (Le + 1) kcap) (Le + 1) (ptrs (([] ++ n2 :: B : List (GT a)).map fun k => k.nd.b)) := by
      have hset := row_set hk4 (j := 0) (by omega) (.pointer (some ⟨n2.nd.b, 0, none⟩))
      rw [hW5]
      have e1 : (ptrs (([] ++ K :: B : List (GT a)).map fun k => k.nd.b)).set (0) (.pointer (some ⟨n2.nd.b, 0, none⟩)) = ptrs (([] ++ n2 :: B : List (GT a)).map fun k => k.nd.b) := by rw [hAi]; simp [ptrs]
      rw [e1] at hset
      exact hset
    have o135 := (hF45.block b13 (Array.getElem?_eq_some_iff.1 o134).1 (fun e => hwn.2 (List.mem_append.2 (.inl (List.mem_append.2 (.inl (by rw [e]; exact hmo.2.2))))))).trans o134
    have o185 := (hF45.block b18 (Array.getElem?_eq_some_iff.1 o18).1 (by omega)).trans o18
    have H4 := Lib.hid (And.intro hW5 (And.intro nb5 (And.intro he5 (And.intro hk5 (And.intro o135 (And.intro o185 (And.intro hF45 (And.intro hFr4 r2))))))))
    clear hFr4 nb4 hk4 he4 o134 hW5 hF45 nb5 he5 hk5 o135 o185 o18 hAi o1 o3 g1 g1' hxw h1f hod hmo hdx nb1' he1 hk1 ox1 o131 hM hML nb2 hF12 hk2 he2 ox2 o132 hTn htb1 hff hSZ hBY hNi htbK hwn hsubK
    go_upto_region 6 with fail
    rw [← H4.out.1]
    clear c44 ck4 fk4
    rcases r3 with ⟨rfl, hfl2, G2⟩ | ⟨s, rfl, sg, sT, hfl2, G2⟩
    · have hnn := ptr_neq_nil W5
      obtain ⟨o1, o3, g1, g1', hxw, h1f, hod, hmo, hdx, nb1', he1, hk1, ox1, o131, hM, hML⟩ := H1.out
      obtain ⟨nb2, hF12, hk2, he2, ox2, o132, hTn, htb1, hff, hSZ, hBY, hNi, htbK, hwn, hsubK⟩ := H2.out
      obtain ⟨hW5, nb5, he5, hk5, o135, o185, hF45, hFr4, r2⟩ := H4.out
      obtain ⟨hW0, hbx, hb13d, ox, o13, z0, hg0, hl, hr, hlt0, htb, hnd, hlen, hg⟩ := H0.out
      obtain ⟨T, hT⟩ : ∃ T : GT (a + 1), T = nk n' ([] ++ ([n2] ++ B)) := ⟨_, rfl⟩
      have hle1 : ([] ++ n2 :: B : List (GT a)).length = n'.es.length + 1 := by rw [← hML, ← hM]; simp
      have fT : T.flat = l.flat ++ (k, v) :: r.flat := by
        rw [hT]
        have q := focus_flat (n := n') (A := []) (K := n2) (B := B) hle1
        show (nk n' ([] ++ n2 :: B)).flat = _
        rw [q, hfl2, ← h1f, hff]
        simp [fore]
      have hS1 : SZ = T.flat.length := by rw [fT, hSZ, h1f]; simp; omega
      have hB1 : BY = bytes T.flat := by rw [fT, hBY, h1f, bytes_append]; simp only [bytes]; try omega
      have hat : NodeAt W5 n' T.flat.length (wr (bytes T.flat)) (some (([] ++ ([n2] ++ B) : List (GT a)).map fun k => k.nd.b)) := by
        have hll1 : (([] ++ n2 :: B : List (GT a)).map fun k => k.nd.b).length = Le + 1 := by rw [List.length_map, hle1, hML]
        refine ⟨cap, .slice (some ⟨n'.kb, 0, none⟩) (Le + 1) kcap, ?_, ?_, kcap, ?_, ?_⟩
        · rw [← hS1, ← hB1, ← hML, o1]
          exact nb5
        · rw [← hML]
          exact he5
        · show _ = Value.slice _ (([] ++ n2 :: B : List (GT a)).map fun k => k.nd.b).length kcap
          rw [hll1]
        · show W5.ownsRow 0 23 1 _ (([] ++ n2 :: B : List (GT a)).map fun k => k.nd.b).length _
          rw [hll1]
          exact hk5
      have hrj := rejoin (KS := [n2]) (W3 := W2) (W4 := W4) (W6 := W5) (eb' := n'.eb) (kb' := n'.kb) (es' := n'.es) o3 o1 g1.nd (fun x hx => ⟨(hxw.fp_lt x hx).1, (hxw.fp_lt x hx).2⟩) hF12 (Grow.swapF (by simpa using G2)) (fun T' hT' => by simp at hT'; subst hT'; exact r2) (hF45.mono (fun i _ h => by have h' : i = n'.kb := h; rw [h']; exact hmo.2.2)) (.inl rfl) (.inl rfl) hod.2.2 (by have := g1.fr.size; omega) (by rw [hT] at hat; exact hat) (by simpa using hle1)
      have tT : Tree g N W5 T := by rw [hT]; exact hrj.1
      have gT : T.nd.gen = g := by rw [hT]; exact o1
      have GT_ : Grow (l.fp g ++ r.fp g) w W5 (T.fp g) := by rw [hT]; exact g1.trans hrj.2
      obtain ⟨W, hWd⟩ : ∃ W, W = W5 := ⟨_, rfl⟩
      rw [← hWd] at tT GT_ hnn
      have o13' : W.heap[b13]? = some (.cells #[.string ⟨#[]⟩, .int .i64 0] 30 (0, 0)) := by rw [hWd]; exact o135
      have hb13 : b13 ∉ T.fp g ∧ w.heap.size ≤ b13 := by
        refine ⟨fun hx => ?_, by omega⟩
        have := hrj.2.out hwn.2 (by have := (Array.getElem?_eq_some_iff.1 o131).1; exact this)
        rw [hT] at hx
        exact this.1 hx
      have hgW : W.cell? ⟨tb, 1, none⟩ = some (.int .u64 g) := (GT_.fr.cell (p := ⟨tb, 1, none⟩) htbl htb).trans hg
      obtain ⟨pb, hpbd⟩ : ∃ pb, pb = n'.b := ⟨_, rfl⟩
      rw [← hWd, ← hpbd]
      have hpb : T.nd.b = pb := by rw [hT, hpbd]; rfl
      clear o13
      have o13 := o13'
      clear o13' o1 o3 g1 g1' hxw h1f hod hmo hdx nb1' he1 hk1 ox1 o131 hM hML nb2 hF12 hk2 he2 ox2 o132 hTn htb1 hff hSZ hBY hNi htbK hwn hsubK hW5 nb5 he5 hk5 o135 o185 hF45 hFr4 r2 hW0 hbx hb13d ox z0 hg0 hl hr hlt0 htb hnd hg hT hle1 hS1 hB1 hat hrj hWd hpbd hfl2 G2 r1
      obtain ⟨ck, kvk, hkb, hke, _⟩ := tT.at
      rw [hpb] at hkb
      have c3 : W.cell? ⟨pb, 3, none⟩ = some (.slice (some ⟨T.nd.eb, 0, none⟩) T.nd.es.length ck) := node_cell hkb 3
      have hfl := tT.flat_len
      have hml : T.nd.es.length ≤ 4000 := by rw [fT] at hfl; omega
      obtain ⟨m, hm⟩ : ∃ m, m = T.nd.es.length := ⟨_, rfl⟩
      rw [← hm] at c3 hml
      have hNW : N ≤ W.heap.size := by have := GT_.fr.size; omega
      have hzW : w.heap.size ≤ W.heap.size := GT_.fr.size
      have b13l : b13 < W.heap.size := (Array.getElem?_eq_some_iff.1 o13).1
      have htbW : tb < W.heap.size := World.block_lt_of_cell? _ _ hgW
      have hTp : T.ptr = .pointer (some ⟨pb, 0, none⟩) := by unfold GT.ptr; rw [hpb]
      by_cases hm31 : 31 < m
      · have hsp := split_tree tb g N T W hgW hNW tT gT GT_.nd (by rw [fT]; omega) (by omega)
        rw [hTp] at hsp
        have HT := Lib.hid (And.intro tT (And.intro gT (And.intro GT_ (And.intro fT (And.intro o13 (And.intro hb13 (And.intro hTp (And.intro hm hpb))))))))
        have hm31' : (31 : Int) < (m : Int) := by omega
        clear tT gT GT_ fT o13 hb13 hTp hm hkb hke hfl hpb
        go_upto_region 23 with (go_at_call 24; refine hsp.mono ?_; rintro e Wa ⟨L, R, k2, v2, rfl, s1, s2, s3, s4, s5, s6, s7⟩)
        clear hsp c3
        obtain ⟨tT, gT, GT_, fT, o13, hb13, hTp, hm, hpb⟩ := HT.out
        have hLp : L.ptr = .pointer (some ⟨pb, 0, none⟩) := by unfold GT.ptr; rw [s1, hpb]
        obtain ⟨Wb, hWb⟩ : ∃ Wb, Wb = Wa.alloc (.cells #[.string k2, .int .i64 v2] 30) := ⟨_, rfl⟩
        obtain ⟨b23, hb23⟩ : ∃ b23, b23 = Wa.heap.size := ⟨_, rfl⟩
        rw [← hWb, ← hb23]
        have hFab : Fr (fun _ => False) Wa Wb := by rw [hWb]; exact (Fr.refl _ _).alloc _
        have o23 : Wb.heap[b23]? = some (.cells #[.string k2, .int .i64 v2] 30 (0, 0)) := by
          rw [hWb, hb23]
          show (Wa.heap.push _)[Wa.heap.size]? = _
          simp
        have ga := GT_.trans s7
        have oa13 := (s7.fr.block b13 b13l hb13.1).trans o13
        have ob13 := (hFab.block b13 (Array.getElem?_eq_some_iff.1 oa13).1 (fun h => h)).trans oa13
        have nb13 : b13 ∉ L.fp g ++ R.fp g := fun hx => by
          rcases s7.sub b13 hx with h | h
          · exact hb13.1 h
          · omega
        have p0 : Wb.cell? ⟨b23, 0, none⟩ = some (.string k2) := by simp [World.cell?, o23]
        have p1 : Wb.cell? ⟨b23, 1, none⟩ = some (.int .i64 v2) := by simp [World.cell?, o23]
        have p2 : Wb.cell? ⟨b13, 0, none⟩ = some (.string ⟨#[]⟩) := by simp [World.cell?, ob13]
        have p3 : Wb.cell? ⟨b13, 1, none⟩ = some (.int .i64 0) := by simp [World.cell?, ob13]
        have p4 : Wb.frozen? ⟨b13, 0, none⟩ = false := by simp [World.frozen?, ob13]
        have p5 : Wb.frozen? ⟨b13, 1, none⟩ = false := by simp [World.frozen?, ob13]
        have nb2 : b13 < b23 := by have := (Array.getElem?_eq_some_iff.1 oa13).1; omega
        have HB := Lib.hid (And.intro ga (And.intro s1 (And.intro s2 (And.intro s3 (And.intro s4 (And.intro s5 (And.intro s6 (And.intro hFab (And.intro nb13 (And.intro fT (And.intro hLp hb13)))))))))))
        clear tT gT GT_ fT o13 hb13 hTp hm hWb hb23 hFab o23 ga oa13 ob13 nb13 hLp s1 s2 s3 s4 s5 s6 s7 hpb
        go_region
        all_goals go_wp2_with fail
        all_goals (try simp only [Exit.inBlock, Exit.then])
        all_goals
          refine bodyPost_ret (v := .tuple #[.pointer (some ⟨pb, 0, none⟩), .agg #[.string k2, .int .i64 v2], R.ptr]) ?_ rfl ?_
          · rw [results_tct rfl]
            go_simp
          · obtain ⟨ga, s1, s2, s3, s4, s5, s6, hFab, nb13, fT, hLp, hb13⟩ := HB.out
            have hFbc : Fr (fun j => j = b13) Wb (((Wb.setCell ⟨b13, 0, none⟩ (.string k2)).setCell ⟨b13, 1, none⟩ (.int .i64 v2)).drew) := (((Fr.refl (fun j => j = b13) Wb).setCell (.inl rfl) _).setCell (.inl rfl) _).drew
            have hNb : ∀ i, i < N → ¬ (i = b13) := fun i hi h => by omega
            have hbn : ∀ x, x ∈ L.fp g ∨ x ∈ R.fp g → ¬ (x = b13) := fun x hx h => nb13 (by rw [← h]; exact List.mem_append.2 hx)
            refine ⟨L, k2, v2, some ⟨R.nd.b, 0, none⟩, by rw [hLp]; rfl, s2, (s5.still hFab).fr hFbc hNb (fun x hx => hbn x (.inl hx)), .inr ⟨R, rfl, s3, (s6.still hFab).fr hFbc hNb (fun x hx => hbn x (.inr hx)), by rw [← s4, fT], ?_⟩⟩
            have gb := ga.trans (Grow.still hFab ga.lt ga.nd)
            exact ⟨gb.fr.trans hFbc (fun i hi h => by omega), gb.sub, fun x hx => Nat.lt_of_lt_of_le (gb.lt x hx) hFbc.size, gb.nd⟩
      · have hm31' : ¬ ((31 : Int) < (m : Int)) := by omega
        have p2 : W.cell? ⟨b13, 0, none⟩ = some (.string ⟨#[]⟩) := by simp [World.cell?, o13]
        have p3 : W.cell? ⟨b13, 1, none⟩ = some (.int .i64 0) := by simp [World.cell?, o13]
        have p4 : W.frozen? ⟨b13, 0, none⟩ = false := by simp [World.frozen?, o13]
        have p5 : W.frozen? ⟨b13, 1, none⟩ = false := by simp [World.frozen?, o13]
        have HT := Lib.hid (And.intro tT (And.intro gT (And.intro GT_ (And.intro fT (And.intro o13 (And.intro hb13 (And.intro hTp hm)))))))
        clear tT gT GT_ fT o13 hb13 hTp hm hkb hke hfl hpb
        go_wp2_with fail
        (try simp only [Exit.inBlock, Exit.then])
        refine bodyPost_ret (v := .tuple #[.pointer (some ⟨pb, 0, none⟩), .agg #[.string ⟨#[]⟩, .int .i64 0], .pointer none]) ?_ rfl ?_
        · rw [results_tct rfl]
          go_simp
        · obtain ⟨tT, gT, GT_, fT, o13, hb13, hTp, hm⟩ := HT.out
          have hFbc : Fr (fun j => j = b13) W ((W.setCell ⟨b13, 0, none⟩ (.string ⟨#[]⟩)).setCell ⟨b13, 1, none⟩ (.int .i64 0)) := ((Fr.refl (fun j => j = b13) W).setCell (.inl rfl) _).setCell (.inl rfl) _
          refine ⟨T, ⟨#[]⟩, 0, none, by rw [hTp], gT, tT.fr hFbc (fun i hi h => by have h' : i = b13 := h; omega) (fun x hx h => hb13.1 (h ▸ hx)), .inl ⟨rfl, fT, ?_⟩⟩
          exact ⟨GT_.fr.trans hFbc (fun i hi h => by have h' : i = b13 := h; omega), GT_.sub, fun x hx => Nat.lt_of_lt_of_le (GT_.lt x hx) hFbc.size, GT_.nd⟩
    · have hnn := ptr_neq_some W5 ⟨s.nd.b, 0, none⟩
      obtain ⟨hW5, nb5, he5, hk5, o135, o185, hF45, hFr4, r2⟩ := H4.out
      have hod := H1.out.2.2.2.2.2.2.1
      have hmo := H1.out.2.2.2.2.2.2.2.1
      have hwn := H2.out.2.2.2.2.2.2.2.2.2.2.2.2.2.1
      have nbl5 := (Array.getElem?_eq_some_iff.1 nb5).1
      have ebl5 := (he5.lt n'.eb rfl).2
      have kbl5 := (hk5.lt n'.kb rfl).2
      have b18l5 := (Array.getElem?_eq_some_iff.1 o185).1
      have b13l5 := (Array.getElem?_eq_some_iff.1 o135).1
      have hb1318 : b13 < b18 := by omega
      -- the entry behind the last
      obtain ⟨W6, hW6⟩ : ∃ W6, W6 = (W5.alloc (.cells #[.string uk, .int .i64 uv] 30)).drew := ⟨_, rfl⟩
      have hF56 : Fr (fun _ => False) W5 W6 := by rw [hW6]; exact ((Fr.refl _ _).alloc _).drew
      have o6 : W6.heap[W5.heap.size]? = some (.cells #[.string uk, .int .i64 uv] 30 (0, 0)) := by
        rw [hW6]
        show (W5.heap.push _)[W5.heap.size]? = _
        simp
      have hins := insE_in n'.eb Le cap 0 W5.heap.size _ [.string uk, .int .i64 uv] W6 (row_fr he5 hF56 (fun h => h)) o6 rfl (one2 uk uv) (eCells_one n'.es) (by omega) (Nat.zero_le _) (by omega)
      rw [ins_cells, show ((0 : Nat) : Int) = 0 from rfl] at hins
      have nb6 := (hF56.block n'.b nbl5 (fun h => h)).trans nb5
      have hox6 := (hF56.block b18 b18l5 (fun h => h)).trans o185
      have hz56 := hF56.size
      have c53 : W5.cell? ⟨n'.b, 3, none⟩ = some (.slice (some ⟨n'.eb, 0, none⟩) Le cap) := node_cell nb5 3
      have x0' : W5.cell? ⟨b18, 0, none⟩ = some (.string uk) := by simp [World.cell?, o185]
      have x1' : W5.cell? ⟨b18, 1, none⟩ = some (.int .i64 uv) := by simp [World.cell?, o185]
      have hbe6 : n'.b ≠ n'.eb := hod.1
      subst hW6
      have B6 := Lib.hid (Array.getElem?_eq_some_iff.1 nb6).1
      have H6 := Lib.hid (And.intro nb6 (And.intro hF56 hk5))
      clear hW5 nb5 he5 hk5 o135 o185 hF45 hFr4 r2 hod hmo hwn hF56 o6 nb6 hox6 x0 x1 c24 ck2 hz56
      go_upto_region 7 with fail
      go_cut [] (fun wx => ∃ g6 cap6, wx.heap[n'.b]? = some (nodeObj g SZ (wr BY) (.slice (some ⟨g6, 0, none⟩) (Le + 1) cap6) (.slice (some ⟨n'.kb, 0, none⟩) (Le + 1) kcap)) ∧ wx.ownsRow 0 30 2 (.slice (some ⟨g6, 0, none⟩) (Le + 1) cap6) (Le + 1) ((n'.es.take 0 ++ (uk, uv) :: n'.es.drop 0).flatMap eCells) ∧ (g6 = n'.eb ∨ W5.heap.size ≤ g6) ∧ Fr (fun j => j = n'.eb ∨ j = n'.b) W5 wx)
      case first =>
        go_region_with (go_at_call 39; refine hins.mono ?_; rintro e w'' ⟨g', cap', rfl, ho, hg', hF⟩; have b7 := (hF.block n'.b B6.out (fun h => hbe6 h)).trans H6.out.1; have c4 : w''.cell? ⟨n'.b, 3, none⟩ = some (.slice (some ⟨n'.eb, 0, none⟩) Le cap) := node_cell b7 3; have f4 := node_frozen b7 3)
        all_goals go_wp2_with fail
        all_goals go_meet
        all_goals
          case rel =>
            have hS : Fr (fun j => j = n'.b) w'' (w''.setCell ⟨n'.b, 3, none⟩ (.slice (some ⟨g', 0, none⟩) (Le + 1) cap')) := (Fr.refl (fun j => j = n'.b) w'').setCell (.inl rfl) _
            have hF56 := H6.out.2.1
            have hsz := hF56.size
            have b6l := B6.out
            refine ⟨g', cap', node_set3 b7 _, row_fr ho hS (by omega), by omega, ?_⟩
            exact ((hF56.mono (fun _ _ h => h.elim)).trans hF (fun _ _ h => .inl h)).trans hS (fun _ _ h => .inr h)
      case rest =>
        obtain ⟨g6, cap6, nb8, he8, hg6, hF58⟩ := hcut
        rename World => W8
        clear hins c53 x0' x1'
        have hk5 := H6.out.2.2
        have hod := H1.out.2.2.2.2.2.2.1
        have hk8 := row_fr hk5 hF58 (by omega)
        have hz58 := hF58.size
        have g6l : g6 < W8.heap.size := (he8.lt g6 rfl).2
        have hg6n : g6 ≠ n'.b := by omega
        obtain ⟨W9, hW9⟩ : ∃ W9, W9 = W8.alloc (.cells #[.pointer (some ⟨s.nd.b, 0, none⟩)] 23) := ⟨_, rfl⟩
        have hF89 : Fr (fun _ => False) W8 W9 := by rw [hW9]; exact (Fr.refl _ _).alloc _
        have o9 : W9.heap[W8.heap.size]? = some (.cells #[.pointer (some ⟨s.nd.b, 0, none⟩)] 23 (0, 0)) := by
          rw [hW9]
          show (W8.heap.push _)[W8.heap.size]? = _
          simp
        have hinsk := insK_in n'.kb (Le + 1) kcap 1 W8.heap.size _ [.pointer (some ⟨s.nd.b, 0, none⟩)] W9 (row_fr hk8 hF89 (fun h => h)) o9 rfl (fun u hu => by simp at hu; subst hu; rfl) (ptrs_one _) (by omega) (by omega) (by omega)
        have hpt : (ptrs (([] ++ n2 :: B : List (GT a)).map fun k => k.nd.b)).take 1 ++ [.pointer (some ⟨s.nd.b, 0, none⟩)] ++ (ptrs (([] ++ n2 :: B : List (GT a)).map fun k => k.nd.b)).drop 1 = ptrs (([] ++ n2 :: s :: B : List (GT a)).map fun k => k.nd.b) := by simp [ptrs]
        rw [hpt, show ((1 : Nat) : Int) = 1 from rfl] at hinsk
        have hz89 := hF89.size
        have nb9 := (hF89.block n'.b (Array.getElem?_eq_some_iff.1 nb8).1 (fun h => h)).trans nb8
        have c84 : W8.cell? ⟨n'.b, 4, none⟩ = some (.slice (some ⟨n'.kb, 0, none⟩) (Le + 1) kcap) := node_cell nb8 4
        have hbk : n'.b ≠ n'.kb := hod.2.1
        have w8l : n'.b < W8.heap.size := (Array.getElem?_eq_some_iff.1 nb8).1
        have w9s : W9.heap.size = W8.heap.size + 1 := by rw [hW9]; simp
        subst hW9
        have B9 := Lib.hid (Array.getElem?_eq_some_iff.1 nb9).1
        have H9 := Lib.hid (And.intro nb9 (And.intro he8 (And.intro hF58 (And.intro hF89 (And.intro hg6 w9s)))))
        clear hpt nb9 nb8 hk5 hod hk8 o9 he8 hF58 hF89 hg6 w9s hz89
        go_upto_region 21 with (go_at_call 40; refine hinsk.mono ?_; rintro e W10 ⟨g9, cap9, rfl, hown9, hg9, hF910⟩; have nb10 := (hF910.block n'.b B9.out (fun h => hbk h)).trans H9.out.1; have c104 : W10.cell? ⟨n'.b, 4, none⟩ = some (.slice (some ⟨n'.kb, 0, none⟩) (Le + 1) kcap) := node_cell nb10 4; have f104 := node_frozen nb10 4)
        clear hinsk c84 c104 f104
        obtain ⟨nb9, he8, hF58, hF89, hg6, w9s⟩ := H9.out
        have hod := H1.out.2.2.2.2.2.2.1
        have hz89 := hF89.size
        have hz910 := hF910.size
        have hg9n : g9 ≠ n'.b ∧ g9 ≠ g6 := by omega
        obtain ⟨W11, hW11⟩ : ∃ W11, W11 = W10.setCell ⟨n'.b, 4, none⟩ (.slice (some ⟨g9, 0, none⟩) (Le + 1 + 1) cap9) := ⟨_, rfl⟩
        have nb11 : W11.heap[n'.b]? = some (nodeObj g SZ (wr BY) (.slice (some ⟨g6, 0, none⟩) (Le + 1) cap6) (.slice (some ⟨g9, 0, none⟩) (Le + 1 + 1) cap9)) := by rw [hW11]; exact node_set4 nb10 _
        have hF1011 : Fr (fun j => j = n'.b) W10 W11 := by rw [hW11]; exact (Fr.refl (fun j => j = n'.b) W10).setCell (.inl rfl) _
        have he9 := row_fr he8 hF89 (fun h => h)
        have he10 := row_fr he9 hF910 (by omega)
        have he11 := row_fr he10 hF1011 hg6n
        have hk11 := row_fr hown9 hF1011 hg9n.1
        have hF511 : Fr (fun j => j = n'.eb ∨ j = n'.b ∨ j = n'.kb) W5 W11 := (((hF58.mono (fun _ _ h => by omega)).trans hF89 (fun _ _ h => h.elim)).trans hF910 (fun _ _ h => .inr (.inr h))).trans hF1011 (fun _ _ h => .inr (.inl h))
        have H11 := Lib.hid (And.intro nb11 (And.intro he11 (And.intro hk11 (And.intro hF511 (And.intro hg6 hg9)))))
        have g9l : g9 < W11.heap.size := (hk11.lt g9 rfl).2
        clear hg6 hod hF58 he8 hF89 hown9 hg9 hF910 nb9 nb10 nb11 hF1011 he9 he10 he11 hk11 hF511 w9s
        rw [← hW11]
        clear hW11
        obtain ⟨o1, o3, g1, g1', hxw, h1f, hod, hmo, hdx, nb1', he1, hk1, ox1, o131, hM, hML⟩ := H1.out
        obtain ⟨nb2, hF12, hk2, he2, ox2, o132, hTn, htb1, hff, hSZ, hBY, hNi, htbK, hwn, hsubK⟩ := H2.out
        obtain ⟨hW5, nb5, he5, hk5, o135, o185, hF45, hFr4, r2⟩ := H4.out
        obtain ⟨nb11, he11, hk11, hF511, hg6, hg9⟩ := H11.out
        obtain ⟨hW0, hbx, hb13d, ox, o13, z0, hg0, hl, hr, hlt0, htb, hnd, hlen, hg⟩ := H0.out
        have hz45 := hF45.size
        obtain ⟨T, hT⟩ : ∃ T : GT (a + 1), T = nk ⟨n'.b, g6, g9, n'.gen, n'.es.take 0 ++ (uk, uv) :: n'.es.drop 0⟩ ([] ++ ([n2, s] ++ B)) := ⟨_, rfl⟩
        have hAl : B.length = n'.es.length := by simp at hM; omega
        have hle1 : ([] ++ n2 :: (s :: B) : List (GT a)).length = (n'.es.take 0 ++ (uk, uv) :: n'.es.drop 0).length + 1 := by simp; omega
        have fT : T.flat = l.flat ++ (k, v) :: r.flat := by
          rw [hT]
          have q := focus_flat (n := ⟨n'.b, g6, g9, n'.gen, n'.es.take 0 ++ (uk, uv) :: n'.es.drop 0⟩) (A := []) (K := n2) (B := s :: B) hle1
          show (nk ⟨n'.b, g6, g9, n'.gen, n'.es.take 0 ++ (uk, uv) :: n'.es.drop 0⟩ ([] ++ n2 :: (s :: B) : List (GT a))).flat = _
          rw [q, ← h1f, hff]
          have t3 : n2.flat ++ (uk, uv) :: (s.flat ++ aft n'.es (B.map GT.flat)) = l.flat ++ (k, v) :: (K.flat ++ aft n'.es (B.map GT.flat)) := by
            have := congrArg (· ++ aft n'.es (B.map GT.flat)) hfl2
            simpa using this
          simpa [fore, aft] using t3
        have hS1 : SZ = T.flat.length := by rw [fT, hSZ, h1f]; simp; omega
        have hB1 : BY = bytes T.flat := by rw [fT, hBY, h1f, bytes_append]; simp only [bytes]; try omega
        have hat : NodeAt W11 ⟨n'.b, g6, g9, n'.gen, n'.es.take 0 ++ (uk, uv) :: n'.es.drop 0⟩ T.flat.length (wr (bytes T.flat)) (some (([] ++ ([n2, s] ++ B) : List (GT a)).map fun k => k.nd.b)) := by
          have hll1 : (([] ++ n2 :: (s :: B) : List (GT a)).map fun k => k.nd.b).length = Le + 1 + 1 := by simp; omega
          have hes1 : (n'.es.take 0 ++ (uk, uv) :: n'.es.drop 0).length = Le + 1 := by simp; omega
          refine ⟨cap6, .slice (some ⟨g9, 0, none⟩) (Le + 1 + 1) cap9, ?_, ?_, cap9, ?_, ?_⟩
          · dsimp only
            rw [← hS1, ← hB1, hes1, o1]
            exact nb11
          · dsimp only
            rw [hes1]
            exact he11
          · show _ = Value.slice _ (([] ++ n2 :: (s :: B) : List (GT a)).map fun k => k.nd.b).length cap9
            rw [hll1]
          · show W11.ownsRow 0 23 1 _ (([] ++ n2 :: (s :: B) : List (GT a)).map fun k => k.nd.b).length _
            rw [hll1]
            exact hk11
        have hF411 : Fr (fun j => j ∈ n'.own g true) W4 W11 := by
          have q1 : Fr (fun j => j = n'.eb ∨ j = n'.b ∨ j = n'.kb) W4 W11 := (hF45.mono (fun _ _ h => .inr (.inr h))).trans hF511 (fun _ _ h => h)
          refine q1.mono (fun i _ h => ?_)
          rcases h with h | h | h
          · rw [h]; exact hmo.2.1
          · rw [h]; exact hmo.1
          · rw [h]; exact hmo.2.2
        have hrj := rejoin (KS := [n2, s]) (W3 := W2) (W4 := W4) (W6 := W11) (eb' := g6) (kb' := g9) (es' := n'.es.take 0 ++ (uk, uv) :: n'.es.drop 0) o3 o1 g1.nd (fun x hx => ⟨(hxw.fp_lt x hx).1, (hxw.fp_lt x hx).2⟩) hF12 (Grow.swapF (by simpa using G2)) (fun T' hT' => by
          simp at hT'
          rcases hT' with rfl | rfl
          · exact r2
          · exact sT) hF411 (by omega) (by omega) (fun e => hg9n.2 e.symm) (by have := g1.fr.size; omega) (by rw [hT] at hat; exact hat) (by simpa using hle1)
        have tT : Tree g N W11 T := by rw [hT]; exact hrj.1
        have gT : T.nd.gen = g := by rw [hT]; exact o1
        have GT_ : Grow (l.fp g ++ r.fp g) w W11 (T.fp g) := by rw [hT]; exact g1.trans hrj.2
        obtain ⟨W, hWd⟩ : ∃ W, W = W11 := ⟨_, rfl⟩
        rw [← hWd] at tT GT_
        have o13' : W.heap[b13]? = some (.cells #[.string ⟨#[]⟩, .int .i64 0] 30 (0, 0)) := by
          rw [hWd]
          refine (hF511.block b13 b13l5 (fun h => ?_)).trans o135
          have q1 : b13 ∈ n'.own g true := by
            rcases h with h | h | h
            · rw [h]; exact hmo.2.1
            · rw [h]; exact hmo.1
            · rw [h]; exact hmo.2.2
          exact hwn.2 (List.mem_append.2 (.inl (List.mem_append.2 (.inl q1))))
        have hb13 : b13 ∉ T.fp g ∧ w.heap.size ≤ b13 := by
          refine ⟨fun hx => ?_, by omega⟩
          have := hrj.2.out hwn.2 (by have := (Array.getElem?_eq_some_iff.1 o131).1; exact this)
          rw [hT] at hx
          exact this.1 hx
        have hgW : W.cell? ⟨tb, 1, none⟩ = some (.int .u64 g) := (GT_.fr.cell (p := ⟨tb, 1, none⟩) htbl htb).trans hg
        obtain ⟨pb, hpbd⟩ : ∃ pb, pb = n'.b := ⟨_, rfl⟩
        rw [← hWd, ← hpbd]
        have hpb : T.nd.b = pb := by rw [hT, hpbd]; rfl
        clear o13
        have o13 := o13'
        clear o13' o1 o3 g1 g1' hxw h1f hod hmo hdx nb1' he1 hk1 ox1 o131 hM hML nb2 hF12 hk2 he2 ox2 o132 hTn htb1 hff hSZ hBY hNi htbK hwn hsubK hW5 nb5 he5 hk5 o135 o185 hF45 hFr4 r2 hW0 hbx hb13d ox z0 hg0 hl hr hlt0 htb hnd hg hT hle1 hS1 hB1 hat hrj hWd hpbd hfl2 G2 r1 nb11 he11 hk11 hF511 hg6 hg9 hF411 hAl sT
        obtain ⟨ck, kvk, hkb, hke, _⟩ := tT.at
        rw [hpb] at hkb
        have c3 : W.cell? ⟨pb, 3, none⟩ = some (.slice (some ⟨T.nd.eb, 0, none⟩) T.nd.es.length ck) := node_cell hkb 3
        have hfl := tT.flat_len
        have hml : T.nd.es.length ≤ 4000 := by rw [fT] at hfl; omega
        obtain ⟨m, hm⟩ : ∃ m, m = T.nd.es.length := ⟨_, rfl⟩
        rw [← hm] at c3 hml
        have hNW : N ≤ W.heap.size := by have := GT_.fr.size; omega
        have hzW : w.heap.size ≤ W.heap.size := GT_.fr.size
        have b13l : b13 < W.heap.size := (Array.getElem?_eq_some_iff.1 o13).1
        have htbW : tb < W.heap.size := World.block_lt_of_cell? _ _ hgW
        have hTp : T.ptr = .pointer (some ⟨pb, 0, none⟩) := by unfold GT.ptr; rw [hpb]
        by_cases hm31 : 31 < m
        · have hsp := split_tree tb g N T W hgW hNW tT gT GT_.nd (by rw [fT]; omega) (by omega)
          rw [hTp] at hsp
          have HT := Lib.hid (And.intro tT (And.intro gT (And.intro GT_ (And.intro fT (And.intro o13 (And.intro hb13 (And.intro hTp (And.intro hm hpb))))))))
          have hm31' : (31 : Int) < (m : Int) := by omega
          clear tT gT GT_ fT o13 hb13 hTp hm hkb hke hfl hpb
          go_upto_region 23 with (go_at_call 24; refine hsp.mono ?_; rintro e Wa ⟨L, R, k2, v2, rfl, s1, s2, s3, s4, s5, s6, s7⟩)
          clear hsp c3
          obtain ⟨tT, gT, GT_, fT, o13, hb13, hTp, hm, hpb⟩ := HT.out
          have hLp : L.ptr = .pointer (some ⟨pb, 0, none⟩) := by unfold GT.ptr; rw [s1, hpb]
          obtain ⟨Wb, hWb⟩ : ∃ Wb, Wb = Wa.alloc (.cells #[.string k2, .int .i64 v2] 30) := ⟨_, rfl⟩
          obtain ⟨b23, hb23⟩ : ∃ b23, b23 = Wa.heap.size := ⟨_, rfl⟩
          rw [← hWb, ← hb23]
          have hFab : Fr (fun _ => False) Wa Wb := by rw [hWb]; exact (Fr.refl _ _).alloc _
          have o23 : Wb.heap[b23]? = some (.cells #[.string k2, .int .i64 v2] 30 (0, 0)) := by
            rw [hWb, hb23]
            show (Wa.heap.push _)[Wa.heap.size]? = _
            simp
          have ga := GT_.trans s7
          have oa13 := (s7.fr.block b13 b13l hb13.1).trans o13
          have ob13 := (hFab.block b13 (Array.getElem?_eq_some_iff.1 oa13).1 (fun h => h)).trans oa13
          have nb13 : b13 ∉ L.fp g ++ R.fp g := fun hx => by
            rcases s7.sub b13 hx with h | h
            · exact hb13.1 h
            · omega
          have p0 : Wb.cell? ⟨b23, 0, none⟩ = some (.string k2) := by simp [World.cell?, o23]
          have p1 : Wb.cell? ⟨b23, 1, none⟩ = some (.int .i64 v2) := by simp [World.cell?, o23]
          have p2 : Wb.cell? ⟨b13, 0, none⟩ = some (.string ⟨#[]⟩) := by simp [World.cell?, ob13]
          have p3 : Wb.cell? ⟨b13, 1, none⟩ = some (.int .i64 0) := by simp [World.cell?, ob13]
          have p4 : Wb.frozen? ⟨b13, 0, none⟩ = false := by simp [World.frozen?, ob13]
          have p5 : Wb.frozen? ⟨b13, 1, none⟩ = false := by simp [World.frozen?, ob13]
          have nb2 : b13 < b23 := by have := (Array.getElem?_eq_some_iff.1 oa13).1; omega
          have HB := Lib.hid (And.intro ga (And.intro s1 (And.intro s2 (And.intro s3 (And.intro s4 (And.intro s5 (And.intro s6 (And.intro hFab (And.intro nb13 (And.intro fT (And.intro hLp hb13)))))))))))
          clear tT gT GT_ fT o13 hb13 hTp hm hWb hb23 hFab o23 ga oa13 ob13 nb13 hLp s1 s2 s3 s4 s5 s6 s7 hpb
          go_region
          all_goals go_wp2_with fail
          all_goals (try simp only [Exit.inBlock, Exit.then])
          all_goals
            refine bodyPost_ret (v := .tuple #[.pointer (some ⟨pb, 0, none⟩), .agg #[.string k2, .int .i64 v2], R.ptr]) ?_ rfl ?_
            · rw [results_tct rfl]
              go_simp
            · obtain ⟨ga, s1, s2, s3, s4, s5, s6, hFab, nb13, fT, hLp, hb13⟩ := HB.out
              have hFbc : Fr (fun j => j = b13) Wb (((Wb.setCell ⟨b13, 0, none⟩ (.string k2)).setCell ⟨b13, 1, none⟩ (.int .i64 v2)).drew) := (((Fr.refl (fun j => j = b13) Wb).setCell (.inl rfl) _).setCell (.inl rfl) _).drew
              have hNb : ∀ i, i < N → ¬ (i = b13) := fun i hi h => by omega
              have hbn : ∀ x, x ∈ L.fp g ∨ x ∈ R.fp g → ¬ (x = b13) := fun x hx h => nb13 (by rw [← h]; exact List.mem_append.2 hx)
              refine ⟨L, k2, v2, some ⟨R.nd.b, 0, none⟩, by rw [hLp]; rfl, s2, (s5.still hFab).fr hFbc hNb (fun x hx => hbn x (.inl hx)), .inr ⟨R, rfl, s3, (s6.still hFab).fr hFbc hNb (fun x hx => hbn x (.inr hx)), by rw [← s4, fT], ?_⟩⟩
              have gb := ga.trans (Grow.still hFab ga.lt ga.nd)
              exact ⟨gb.fr.trans hFbc (fun i hi h => by omega), gb.sub, fun x hx => Nat.lt_of_lt_of_le (gb.lt x hx) hFbc.size, gb.nd⟩
        · have hm31' : ¬ ((31 : Int) < (m : Int)) := by omega
          have p2 : W.cell? ⟨b13, 0, none⟩ = some (.string ⟨#[]⟩) := by simp [World.cell?, o13]
          have p3 : W.cell? ⟨b13, 1, none⟩ = some (.int .i64 0) := by simp [World.cell?, o13]
          have p4 : W.frozen? ⟨b13, 0, none⟩ = false := by simp [World.frozen?, o13]
          have p5 : W.frozen? ⟨b13, 1, none⟩ = false := by simp [World.frozen?, o13]
          have HT := Lib.hid (And.intro tT (And.intro gT (And.intro GT_ (And.intro fT (And.intro o13 (And.intro hb13 (And.intro hTp hm)))))))
          clear tT gT GT_ fT o13 hb13 hTp hm hkb hke hfl hpb
          go_wp2_with fail
          (try simp only [Exit.inBlock, Exit.then])
          refine bodyPost_ret (v := .tuple #[.pointer (some ⟨pb, 0, none⟩), .agg #[.string ⟨#[]⟩, .int .i64 0], .pointer none]) ?_ rfl ?_
          · rw [results_tct rfl]
            go_simp
          · obtain ⟨tT, gT, GT_, fT, o13, hb13, hTp, hm⟩ := HT.out
            have hFbc : Fr (fun j => j = b13) W ((W.setCell ⟨b13, 0, none⟩ (.string ⟨#[]⟩)).setCell ⟨b13, 1, none⟩ (.int .i64 0)) := ((Fr.refl (fun j => j = b13) W).setCell (.inl rfl) _).setCell (.inl rfl) _
            refine ⟨T, ⟨#[]⟩, 0, none, by rw [hTp], gT, tT.fr hFbc (fun i hi h => by have h' : i = b13 := h; omega) (fun x hx h => hb13.1 (h ▸ hx)), .inl ⟨rfl, fT, ?_⟩⟩
            exact ⟨GT_.fr.trans hFbc (fun i hi h => by have h' : i = b13 := h; omega), GT_.sub, fun x hx => Nat.lt_of_lt_of_le (GT_.lt x hx) hFbc.size, GT_.nd⟩
end Go.Proofs.Ybulkbrzk.BT
