/-
  insert, set.
-/
import Derived.Test.YbulkbrzkInner
import Derived.Test.YbulkbrzkOps3
namespace Go.Proofs.Ybulkbrzk.BT
open Go Go.RowKit
set_option linter.unusedVariables false

theorem insert_tree (tb g N : Nat) (key : ByteArray) (v : Int) : ∀ {h : Nat} (t : GT h) (w : World), w.cell? ⟨tb, 1, none⟩ = some (.int .u64 g) → tb ∉ t.fp g → N ≤ w.heap.size → Tree g N w t → t.nd.gen = g → (t.fp g).Nodup → t.flat.length ≤ 4000 → Sorted t.flat →
    Calls Yba.prog 26 #[.pointer (some ⟨tb, 0, none⟩), t.ptr, .string key, .int .i64 v] w (InsPost g N key v t w)
  | 0, t, w, hg, htb, hN, ht, hgen, hnd, hl, hS => insert_leaf tb g N t key v w hN ht hgen hnd hl hS
  | h + 1, t, w, hg, htb, hN, ht, hgen, hnd, hl, hS => insert_inner tb g N t key v w hg htb hN ht hgen hnd hl hS (fun K W a b c d e f g' i => insert_tree tb g N key v K W a b c d e f g' i)

/-- a tree or none -/
abbrev Root := Option ((h : Nat) × GT h)
def Root.ptr : Root → Value
  | none => .pointer none
  | some ⟨_, t⟩ => t.ptr
def Root.flat : Root → List E
  | none => []
  | some ⟨_, t⟩ => t.flat
def Root.height : Root → Nat
  | none => 0
  | some ⟨h, _⟩ => h
def Root.fp (g : Nat) : Root → List Nat
  | none => []
  | some ⟨_, t⟩ => t.fp g
def RTree (g N : Nat) (W : World) : Root → Prop
  | none => True
  | some ⟨_, t⟩ => Tree g N W t

/-- the tree's two cells -/
def treeObj (p : Value) (g : Nat) : Obj := .cells #[p, .int .u64 g] 26 (0, 0)
theorem tree_cell0 {W : World} {b g : Nat} {p : Value} (h : W.heap[b]? = some (treeObj p g)) : W.cell? ⟨b, 0, none⟩ = some p ∧ W.cell? ⟨b, 1, none⟩ = some (.int .u64 g) ∧ W.frozen? ⟨b, 0, none⟩ = false := by
  refine ⟨?_, ?_, ?_⟩
  · simp [World.cell?, h, treeObj]
  · simp [World.cell?, h, treeObj]
  · simp [World.frozen?, h, treeObj]
theorem tree_set {W : World} {b g : Nat} {p : Value} (h : W.heap[b]? = some (treeObj p g)) (q : Value) : (W.setCell ⟨b, 0, none⟩ q).heap[b]? = some (treeObj q g) := heap_setCell_same h q

theorem Grow.out {F F' : List Nat} {w w' : World} {tb : Nat} (G : Grow F w w' F') (h : tb ∉ F) (hl : tb < w.heap.size) : tb ∉ F' ∧ w'.heap[tb]? = w.heap[tb]? :=
  ⟨fun hm => (G.sub tb hm).elim h (fun h' => by omega), G.fr.block tb hl h⟩
theorem Grow.cons {F F' : List Nat} {w w' : World} {tb : Nat} (G : Grow F w w' F') (h : tb ∉ F) (hl : tb < w.heap.size) (hF : F.Nodup) (hFl : ∀ x, x ∈ F → x < w.heap.size) : Grow (tb :: F) w w' (tb :: F') := by
  have := Grow.ctx (X := [tb]) (Y := []) G (by simp [h, hF]) (fun x hx => by rcases hx with hx | hx <;> simp at hx; omega)
  simpa using this
/-- the tree's own cell turns -/
theorem Grow.store {F : List Nat} {w : World} {tb : Nat} (q : Value) (h : tb ∉ F) (hl : tb < w.heap.size) (hF : F.Nodup) (hFl : ∀ x, x ∈ F → x < w.heap.size) : Grow (tb :: F) w (w.setCell ⟨tb, 0, none⟩ q) (tb :: F) :=
  Grow.same ((Fr.refl (fun j => j = tb) w).setCell (.inl rfl) _) (fun i _ h => by simp [h]) (fun x hx => by rcases List.mem_cons.1 hx with rfl | hx; exact hl; exact hFl x hx) (by simp [h, hF])

theorem ptr_nil (W : World) : (binOp .eql 23 (.pointer none) (.pointer none)).run Yba.prog W = .ok (.bool true) W := by kernel_rfl
theorem ptr_some (W : World) (a : Addr) : (binOp .eql 23 (.pointer (some a)) (.pointer none)).run Yba.prog W = .ok (.bool false) W := by kernel_rfl

set_option maxRecDepth 100000 in
set_option maxHeartbeats 16000000 in
theorem set_in (tb g N : Nat) (r : Root) (key : ByteArray) (v : Int) (w : World) (h0 : w.heap[tb]? = some (treeObj r.ptr g)) (hN : N ≤ tb) (htb : tb ∉ r.fp g) (ht : RTree g N w r) (hnd : (r.fp g).Nodup) (hl : r.flat.length ≤ 3999) (hS : Sorted r.flat) :
    Calls Yba.prog 8 #[.pointer (some ⟨tb, 0, none⟩), .string key, .int .i64 v] w fun e w' => ∃ (h : Nat) (t' : GT h), e = .returned (.tuple #[]) ∧ h ≤ r.height + 1 ∧ t'.flat = ins key v r.flat ∧ (t'.flat.length = r.flat.length + 1 ∨ t'.flat.length = r.flat.length) ∧ Tree g N w' t' ∧ w'.heap[tb]? = some (treeObj t'.ptr g) ∧ Grow (tb :: r.fp g) w w' (tb :: t'.fp g) := by
  have htbl : tb < w.heap.size := (Array.getElem?_eq_some_iff.1 h0).1
  obtain ⟨c0, c1, f0⟩ := tree_cell0 h0
  cases r with
  | none =>
    have c0' : w.cell? ⟨tb, 0, none⟩ = some (.pointer none) := c0
    clear c0
    have hpn : ∀ W : World, (binOp .eql 23 (.pointer none) (.pointer none)).run Yba.prog W = .ok (.bool true) W := fun W => ptr_nil W
    have hnew := newNode_in tb g w c1
    obtain ⟨W1, hW1⟩ : ∃ W1, W1 = (newW w g).drew := ⟨_, rfl⟩
    obtain ⟨ne, hne⟩ : ∃ ne, ne = w.heap.size := ⟨_, rfl⟩
    rw [← hW1, ← hne] at hnew
    have hF1 : Fr (fun _ => False) w W1 := by rw [hW1]; exact (new_fr w g).drew
    have n1 : W1.heap[ne + 1]? = some (nodeObj g 0 0 (.slice (some ⟨ne, 0, none⟩) 0 31) (.slice none 0 0)) := by rw [hW1, hne]; exact new_node w g
    have r1 : W1.ownsRow 0 30 2 (.slice (some ⟨ne, 0, none⟩) 0 31) 0 [] := by rw [hW1, hne]; exact e31_row w g
    have z1 : W1.heap.size = ne + 2 := by rw [hW1, hne]; exact new_size w g
    have o1 := (hF1.block tb htbl (fun h => h)).trans h0
    obtain ⟨d0, d1, df⟩ := tree_cell0 o1
    have d0' : W1.cell? ⟨tb, 0, none⟩ = some (.pointer none) := d0
    obtain ⟨t, htd⟩ : ∃ t : GT 0, t = (⟨ne + 1, ne, 0, g, []⟩ : Nd) := ⟨_, rfl⟩
    obtain ⟨W, hWd⟩ : ∃ W, W = W1.setCell ⟨tb, 0, none⟩ (.pointer (some ⟨ne + 1, 0, none⟩)) := ⟨_, rfl⟩
    have hFs : Fr (fun j => j = tb) W1 W := by rw [hWd]; exact (Fr.refl (fun j => j = tb) W1).setCell (.inl rfl) _
    have r1' := row_fr r1 hFs (by omega)
    have tW0 : Tree g N W t := by
      rw [htd]
      refine ⟨⟨31, .slice none 0 0, ?_, ?_, rfl⟩, lies_of rfl (by show N ≤ ne + 1; omega) (by show N ≤ ne; omega) (fun h => by cases h)⟩
      · have := (hFs.block (ne + 1) (Array.getElem?_eq_some_iff.1 n1).1 (by omega)).trans n1
        show W.heap[ne + 1]? = some (nodeObj g ((0 : Nat) : Int) (wr ((0 : Nat) : Int)) _ _)
        rw [show ((0 : Nat) : Int) = 0 from rfl, wr_zero]
        exact this
      · exact r1'
    have hfpt : t.fp g = [ne + 1, ne] := by rw [htd]; simp [GT.fp, Nd.own]
    have oW0 : W.heap[tb]? = some (treeObj t.ptr g) := by rw [hWd, htd]; exact tree_set o1 _
    have gW0 : Grow (tb :: Root.fp g none) w W (tb :: t.fp g) := by
      have q1 : Grow [tb] w W1 [tb] := Grow.still hF1 (fun x hx => by simp at hx; omega) (by simp)
      have q2 : Grow [tb] W1 W1 [tb] := Grow.still (Fr.refl _ _) (fun x hx => by simp at hx; have := hF1.size; omega) (by simp)
      rw [hfpt]
      show Grow [tb] w W [tb, ne + 1, ne]
      have hz := hF1.size
      have hzs := hFs.size
      refine ⟨(hF1.mono (S' := (· ∈ [tb])) (fun _ _ h => h.elim)).trans hFs (fun i _ h => by simp [h]), fun x hx => ?_, fun x hx => ?_, ?_⟩
      · simp at hx ⊢
        omega
      · simp at hx
        omega
      · simp
        omega
    have fW0 : t.flat = Root.flat none := by rw [htd]; rfl
    have hptr0 : t.ptr = .pointer (some ⟨ne + 1, 0, none⟩) := by rw [htd]; rfl
    have HW := Lib.hid (And.intro hWd (And.intro tW0 (And.intro oW0 (And.intro gW0 (And.intro fW0 hptr0)))))
    clear z1 n1 r1 htd hWd hFs tW0 hfpt oW0 gW0 fW0 hptr0 hW1 hne h0 o1 d0
    go_enter Yba.func8, Yba.ntmps8
    go_upto_region 2 with (go_at_call 22; refine hnew.mono ?_; rintro e w' ⟨rfl, h'⟩; replace h' := h'.symm; subst h')
    rw [← HW.out.1]
    clear c0' c1 f0 hnew d0' d1 df hpn
    have tW := HW.out.2.1
    have oW := HW.out.2.2.1
    have gW := HW.out.2.2.2.1
    have fW := HW.out.2.2.2.2.1
    have hptr := HW.out.2.2.2.2.2
    have htb0 : tb ∉ t.fp g := fun hx => (List.nodup_cons.1 gW.nd).1 hx
    have hnd0 := (List.nodup_cons.1 gW.nd).2
    have hNW : N ≤ W.heap.size := by have := gW.fr.size; omega
    have htbW : tb < W.heap.size := by have := gW.fr.size; omega
    have hlW : t.flat.length ≤ 3999 := by rw [fW]; exact hl
    have hSW : Sorted t.flat := by rw [fW]; exact hS
    obtain ⟨c0, c1, f0⟩ := tree_cell0 oW
    rw [hptr] at c0
    have hown := own_tree tb g N t W c1 hNW tW hnd0 (by omega)
    rw [hptr] at hown
    have HA := Lib.hid (And.intro tW (And.intro oW (And.intro gW (And.intro fW (And.intro htb0 (And.intro hnd0 (And.intro hlW (And.intro hSW hptr))))))))
    clear tW oW gW fW htb0 hnd0 hlW hSW hptr
    go_upto_region 3 with (go_at_call 23; refine hown.mono ?_; rintro e W1 ⟨n', rfl, o1, o2, o3, o4, o5⟩; have e1 := (o5.block tb htbW (fun h => h)).trans HA.out.2.1; have e2 := tree_cell0 e1; have e3 := e2.1; rw [HA.out.2.2.2.2.2.2.2.2] at e3; have e4 := e2.2.1; have e5 := e2.2.2; clear e1 e2)
    clear hown c0 c1 f0 e3 e4 e5
    obtain ⟨tW, oW, gW, fW, htb0, hnd0, hlW, hSW, hptr⟩ := HA.out
    obtain ⟨t1, ht1⟩ : ∃ t1, t1 = t.withNd n' := ⟨_, rfl⟩
    rw [← ht1] at o3 o4
    have h1n : t1.nd = n' := by rw [ht1, GT.withNd_nd]
    have h1f : t1.flat = t.flat := by rw [ht1, GT.withNd_flat t n' o2]
    have h1p : t1.ptr = .pointer (some ⟨n'.b, 0, none⟩) := by unfold GT.ptr; rw [h1n]
    have h1g : t1.nd.gen = g := by rw [h1n]; exact o1
    obtain ⟨W2, hW2⟩ : ∃ W2, W2 = W1.setCell ⟨tb, 0, none⟩ (.pointer (some ⟨n'.b, 0, none⟩)) := ⟨_, rfl⟩
    rw [← hW2]
    have ob1 := o4.out htb0 htbW
    have hl1 : tb < W1.heap.size := by have := o5.size; omega
    have hFs : Fr (fun j => j = tb) W1 W2 := by rw [hW2]; exact (Fr.refl (fun j => j = tb) W1).setCell (.inl rfl) _
    have t2 : Tree g N W2 t1 := o3.fr hFs (fun i hi h => by have h' : i = tb := h; omega) (fun x hx h => ob1.1 (h ▸ hx))
    have oW2 : W2.heap[tb]? = some (treeObj t1.ptr g) := by rw [hW2, h1p]; exact tree_set (ob1.2.trans oW) _
    have g2 : Grow (tb :: Root.fp g none) w W2 (tb :: t1.fp g) := by
      refine (gW.trans (o4.cons htb0 htbW hnd0 (fun x hx => (tW.fp_lt x hx).2))).trans ?_
      rw [hW2]
      exact Grow.store _ ob1.1 hl1 o4.nd o4.lt
    obtain ⟨ck, kvk, hkb, hke, _⟩ := t2.at
    rw [h1n] at hkb hke
    obtain ⟨c0, c1, f0⟩ := tree_cell0 oW2
    rw [h1p] at c0
    have c3 : W2.cell? ⟨n'.b, 3, none⟩ = some (.slice (some ⟨n'.eb, 0, none⟩) n'.es.length ck) := node_cell hkb 3
    have hfl := t2.flat_len
    have hml : n'.es.length ≤ 3999 := by rw [h1n, h1f] at hfl; omega
    have hf1 : t1.flat = Root.flat none := h1f.trans fW
    obtain ⟨m, hm⟩ : ∃ m, m = n'.es.length := ⟨_, rfl⟩
    rw [← hm] at c3 hml
    have hnd1 := (List.nodup_cons.1 g2.nd).2
    have htb1 := (List.nodup_cons.1 g2.nd).1
    have hz2 : w.heap.size ≤ W2.heap.size := g2.fr.size
    have hl1f : t1.flat.length ≤ 3999 := by rw [hf1]; exact hl
    have hS1 : Sorted t1.flat := by rw [hf1]; exact hS
    have hins := insert_tree tb g N key v t1 W2 c1 htb1 (by omega) t2 h1g hnd1 (by omega) hS1
    rw [h1p] at hins
    have HB := Lib.hid (And.intro t2 (And.intro oW2 (And.intro g2 (And.intro hf1 (And.intro htb1 (And.intro hnd1 (And.intro hl1f (And.intro hS1 (And.intro h1p (And.intro h1g (And.intro h1n hm)))))))))))
    have htb2 : tb < W2.heap.size := by omega
    clear tW oW gW fW htb0 hnd0 hlW hSW hptr ht1 o1 o2 o3 o4 o5 h1n h1f h1p h1g hW2 ob1 hl1 hFs t2 oW2 g2 hkb hke hfl hf1 hm hnd1 htb1 hl1f hS1
    by_cases hm31 : m = 31
    · subst hm31
      obtain ⟨t2, oW2, g2, hf1, htb1, hnd1, hl1f, hS1, h1p, h1g, h1n, hm⟩ := HB.out
      have hsp := split_tree tb g N t1 W2 c1 (by omega) t2 h1g hnd1 (by omega) (by rw [h1n, ← hm]; omega)
      rw [h1p] at hsp
      clear t2 oW2 g2 hf1 htb1 hnd1 hl1f hS1 h1p h1g h1n hm hins
      go_upto_region 6 with (go_at_call 24; refine hsp.mono ?_; rintro e W3 ⟨L, R, k, vv, rfl, s1, s2, s3, s4, s5, s6, s7⟩)
      clear hsp
      obtain ⟨t2, oW2, g2, hf1, htb1, hnd1, hl1f, hS1, h1p, h1g, h1n, hm⟩ := HB.out
      obtain ⟨W4, hW4⟩ : ∃ W4, W4 = W3.alloc (.cells #[.string k, .int .i64 vv] 30) := ⟨_, rfl⟩
      obtain ⟨bx, hbx⟩ : ∃ bx, bx = W3.heap.size := ⟨_, rfl⟩
      rw [← hW4, ← hbx]
      have hF34 : Fr (fun _ => False) W3 W4 := by rw [hW4]; exact (Fr.refl _ _).alloc _
      have ob4 : W4.heap[bx]? = some (.cells #[.string k, .int .i64 vv] 30 (0, 0)) := by
        rw [hW4, hbx]
        show (W3.heap.push _)[W3.heap.size]? = _
        simp
      have ob3 := s7.out htb1 htb2
      have hz3 := s7.fr.size
      have oW3 := ob3.2.trans oW2
      have oW4 := (hF34.block tb (by omega) (fun h => h)).trans oW3
      have g3 := s7.trans (Grow.still hF34 s7.lt s7.nd)
      have c4 := tree_cell0 oW4
      have hlens : L.flat.length + 1 + R.flat.length = t1.flat.length := by rw [s4]; simp; omega
      have hz4 := hF34.size
      have hrs := raise_tree tb g N L R k vv W4 c4.2.1 (by omega) (s5.still hF34) (s6.still hF34) g3.nd (by omega) (by omega)
      have hLp : L.ptr = .pointer (some ⟨n'.b, 0, none⟩) := by unfold GT.ptr; rw [s1, h1n]
      rw [hLp] at hrs
      unfold GT.ptr at hrs
      have x0 : W4.cell? ⟨bx, 0, none⟩ = some (.string k) := by simp [World.cell?, ob4]
      have x1 : W4.cell? ⟨bx, 1, none⟩ = some (.int .i64 vv) := by simp [World.cell?, ob4]
      have htb4 : tb < W4.heap.size := by omega
      have HC := Lib.hid (And.intro oW4 (And.intro g3 (And.intro s4 (And.intro g2 (And.intro hf1 (And.intro htb1 (And.intro hnd1 (And.intro hS1 (And.intro hl1f t2)))))))))
      clear t2 oW2 g2 hf1 htb1 hnd1 hl1f hS1 h1p h1g h1n hm hW4 hbx hF34 ob4 ob3 oW3 oW4 g3 c4 hlens hLp s1 s2 s3 s4 s5 s6 s7 c0 c1 f0 c3
      go_upto_region 7 with (go_at_call 25; refine hrs.mono ?_; rintro e W5 ⟨T, rfl, u1, u2, u3, u4, u5⟩; have e1 := (u5.block tb htb4 (fun h => h)).trans HC.out.1; have e2 := tree_cell0 e1; have e3 := e2.1; have e5 := e2.2.2; clear e1 e2)
      clear hrs x0 x1 e3 e5
      obtain ⟨oW4, g3, s4, g2, hf1, htb1, hnd1, hS1, hl1f, t2⟩ := HC.out
      obtain ⟨W6, hW6⟩ : ∃ W6, W6 = W5.setCell ⟨tb, 0, none⟩ (.pointer (some ⟨T.nd.b, 0, none⟩)) := ⟨_, rfl⟩
      rw [← hW6]
      have g5 : Grow (t1.fp g) W2 W5 (T.fp g) := g3.trans u4
      have ob5 := g5.out htb1 htb2
      have oW5 := (u5.block tb htb4 (fun h => h)).trans oW4
      have hz5 := g5.fr.size
      have hFs6 : Fr (fun j => j = tb) W5 W6 := by rw [hW6]; exact (Fr.refl (fun j => j = tb) W5).setCell (.inl rfl) _
      have tW6 : Tree g N W6 T := u3.fr hFs6 (fun i hi h => by have h' : i = tb := h; omega) (fun x hx h => ob5.1 (h ▸ hx))
      have oW6 : W6.heap[tb]? = some (treeObj T.ptr g) := by rw [hW6]; exact tree_set oW5 _
      have g6 : Grow (tb :: Root.fp g none) w W6 (tb :: T.fp g) := by
        refine (g2.trans (g5.cons htb1 htb2 hnd1 (fun x hx => (t2.fp_lt x hx).2))).trans ?_
        rw [hW6]
        exact Grow.store _ ob5.1 (by omega) g5.nd g5.lt
      have hf6 : T.flat = Root.flat none := by rw [u2, ← s4]; exact hf1
      have hz6 := g6.fr.size
      obtain ⟨c0, c1, f0⟩ := tree_cell0 oW6
      have hins := insert_tree tb g N key v T W6 c1 (List.nodup_cons.1 g6.nd).1 (by omega) tW6 u1 (List.nodup_cons.1 g6.nd).2 (by rw [hf6]; omega) (by rw [hf6]; exact hS)
      have HD := Lib.hid (And.intro oW6 (And.intro g6 (And.intro hf6 tW6)))
      unfold GT.ptr at c0 hins
      clear oW4 g3 s4 g2 hf1 htb1 hnd1 hS1 hl1f t2 hW6 g5 ob5 oW5 hFs6 tW6 oW6 g6 hf6 u1 u2 u3 u4 u5
      go_wp2_with (go_at_call 26; refine hins.mono ?_; rintro e W7 ⟨t', ad, gr, rfl, q1, q2, q3, q4, q5, q6⟩)
      go_end0
      obtain ⟨oW6, g6, hf6, tW6⟩ := HD.out
      have ob7 := q5.out (List.nodup_cons.1 g6.nd).1 (by omega)
      refine ⟨_, t', rfl, by simp [Root.height], by rw [q3, hf6], ?_, q4, ?_, g6.trans (q5.cons (List.nodup_cons.1 g6.nd).1 (by omega) (List.nodup_cons.1 g6.nd).2 (fun x hx => (tW6.fp_lt x hx).2))⟩
      · rw [← hf6]
        rcases q6 with ⟨_, _, l1, _⟩ | ⟨_, _, l1, _⟩
        · exact .inl l1
        · exact .inr l1
      · rw [ob7.2, oW6]
        unfold GT.ptr
        rw [q1]
    · have hm31' : ¬ ((m : Int) = 31) := by omega
      go_wp2_with (go_at_call 26; refine hins.mono ?_; rintro e W7 ⟨t', ad, gr, rfl, q1, q2, q3, q4, q5, q6⟩)
      go_end0
      obtain ⟨t2, oW2, g2, hf1, htb1, hnd1, hl1f, hS1, h1p, h1g, h1n, hm⟩ := HB.out
      have ob7 := q5.out htb1 htb2
      refine ⟨_, t', rfl, by simp [Root.height], by rw [q3, hf1], ?_, q4, ?_, g2.trans (q5.cons htb1 htb2 hnd1 (fun x hx => (t2.fp_lt x hx).2))⟩
      · rw [← hf1]
        rcases q6 with ⟨_, _, l1, _⟩ | ⟨_, _, l1, _⟩
        · exact .inl l1
        · exact .inr l1
      · rw [ob7.2, oW2]
        unfold GT.ptr
        rw [q1]
  | some tt =>
    obtain ⟨h, t⟩ := tt
    have c0' : w.cell? ⟨tb, 0, none⟩ = some t.ptr := c0
    have hpn : ∀ (W : World) (a : Addr), (binOp .eql 23 (.pointer (some a)) (.pointer none)).run Yba.prog W = .ok (.bool false) W := fun W a => ptr_some W a
    obtain ⟨W, hWd⟩ : ∃ W, W = w := ⟨_, rfl⟩
    obtain ⟨pb, hpb⟩ : ∃ pb, pb = t.nd.b := ⟨_, rfl⟩
    have hptr : t.ptr = .pointer (some ⟨pb, 0, none⟩) := by unfold GT.ptr; rw [hpb]
    rw [hptr] at c0'
    have tW : Tree g N W t := by rw [hWd]; exact ht
    have oW : W.heap[tb]? = some (treeObj t.ptr g) := by rw [hWd]; exact h0
    have gW : Grow (tb :: Root.fp g (some ⟨h, t⟩)) w W (tb :: t.fp g) := by
      rw [hWd]
      exact Grow.still (Fr.refl _ _) (fun x hx => by rcases List.mem_cons.1 hx with rfl | hx; exact htbl; exact (Tree.fp_lt (t := t) ht x hx).2) (by
        show (tb :: t.fp g).Nodup
        exact List.nodup_cons.2 ⟨htb, hnd⟩)
    have fW : t.flat = Root.flat (some ⟨h, t⟩) := rfl
    have HW := Lib.hid (And.intro hWd (And.intro tW (And.intro oW (And.intro gW (And.intro fW hptr)))))
    clear hpb h0 tW oW gW fW hptr c0 hWd
    go_enter Yba.func8, Yba.ntmps8
    go_upto_region 2 with fail
    rw [← HW.out.1]
    clear c0' c1 f0 hpn
    have tW := HW.out.2.1
    have oW := HW.out.2.2.1
    have gW := HW.out.2.2.2.1
    have fW := HW.out.2.2.2.2.1
    have hptr := HW.out.2.2.2.2.2
    have htb0 : tb ∉ t.fp g := fun hx => (List.nodup_cons.1 gW.nd).1 hx
    have hnd0 := (List.nodup_cons.1 gW.nd).2
    have hNW : N ≤ W.heap.size := by have := gW.fr.size; omega
    have htbW : tb < W.heap.size := by have := gW.fr.size; omega
    have hlW : t.flat.length ≤ 3999 := by rw [fW]; exact hl
    have hSW : Sorted t.flat := by rw [fW]; exact hS
    obtain ⟨c0, c1, f0⟩ := tree_cell0 oW
    rw [hptr] at c0
    have hown := own_tree tb g N t W c1 hNW tW hnd0 (by omega)
    rw [hptr] at hown
    have HA := Lib.hid (And.intro tW (And.intro oW (And.intro gW (And.intro fW (And.intro htb0 (And.intro hnd0 (And.intro hlW (And.intro hSW hptr))))))))
    clear tW oW gW fW htb0 hnd0 hlW hSW hptr
    go_upto_region 3 with (go_at_call 23; refine hown.mono ?_; rintro e W1 ⟨n', rfl, o1, o2, o3, o4, o5⟩; have e1 := (o5.block tb htbW (fun h => h)).trans HA.out.2.1; have e2 := tree_cell0 e1; have e3 := e2.1; rw [HA.out.2.2.2.2.2.2.2.2] at e3; have e4 := e2.2.1; have e5 := e2.2.2; clear e1 e2)
    clear hown c0 c1 f0 e3 e4 e5
    obtain ⟨tW, oW, gW, fW, htb0, hnd0, hlW, hSW, hptr⟩ := HA.out
    obtain ⟨t1, ht1⟩ : ∃ t1, t1 = t.withNd n' := ⟨_, rfl⟩
    rw [← ht1] at o3 o4
    have h1n : t1.nd = n' := by rw [ht1, GT.withNd_nd]
    have h1f : t1.flat = t.flat := by rw [ht1, GT.withNd_flat t n' o2]
    have h1p : t1.ptr = .pointer (some ⟨n'.b, 0, none⟩) := by unfold GT.ptr; rw [h1n]
    have h1g : t1.nd.gen = g := by rw [h1n]; exact o1
    obtain ⟨W2, hW2⟩ : ∃ W2, W2 = W1.setCell ⟨tb, 0, none⟩ (.pointer (some ⟨n'.b, 0, none⟩)) := ⟨_, rfl⟩
    rw [← hW2]
    have ob1 := o4.out htb0 htbW
    have hl1 : tb < W1.heap.size := by have := o5.size; omega
    have hFs : Fr (fun j => j = tb) W1 W2 := by rw [hW2]; exact (Fr.refl (fun j => j = tb) W1).setCell (.inl rfl) _
    have t2 : Tree g N W2 t1 := o3.fr hFs (fun i hi h => by have h' : i = tb := h; omega) (fun x hx h => ob1.1 (h ▸ hx))
    have oW2 : W2.heap[tb]? = some (treeObj t1.ptr g) := by rw [hW2, h1p]; exact tree_set (ob1.2.trans oW) _
    have g2 : Grow (tb :: Root.fp g (some ⟨h, t⟩)) w W2 (tb :: t1.fp g) := by
      refine (gW.trans (o4.cons htb0 htbW hnd0 (fun x hx => (tW.fp_lt x hx).2))).trans ?_
      rw [hW2]
      exact Grow.store _ ob1.1 hl1 o4.nd o4.lt
    obtain ⟨ck, kvk, hkb, hke, _⟩ := t2.at
    rw [h1n] at hkb hke
    obtain ⟨c0, c1, f0⟩ := tree_cell0 oW2
    rw [h1p] at c0
    have c3 : W2.cell? ⟨n'.b, 3, none⟩ = some (.slice (some ⟨n'.eb, 0, none⟩) n'.es.length ck) := node_cell hkb 3
    have hfl := t2.flat_len
    have hml : n'.es.length ≤ 3999 := by rw [h1n, h1f] at hfl; omega
    have hf1 : t1.flat = Root.flat (some ⟨h, t⟩) := h1f.trans fW
    obtain ⟨m, hm⟩ : ∃ m, m = n'.es.length := ⟨_, rfl⟩
    rw [← hm] at c3 hml
    have hnd1 := (List.nodup_cons.1 g2.nd).2
    have htb1 := (List.nodup_cons.1 g2.nd).1
    have hz2 : w.heap.size ≤ W2.heap.size := g2.fr.size
    have hl1f : t1.flat.length ≤ 3999 := by rw [hf1]; exact hl
    have hS1 : Sorted t1.flat := by rw [hf1]; exact hS
    have hins := insert_tree tb g N key v t1 W2 c1 htb1 (by omega) t2 h1g hnd1 (by omega) hS1
    rw [h1p] at hins
    have HB := Lib.hid (And.intro t2 (And.intro oW2 (And.intro g2 (And.intro hf1 (And.intro htb1 (And.intro hnd1 (And.intro hl1f (And.intro hS1 (And.intro h1p (And.intro h1g (And.intro h1n hm)))))))))))
    have htb2 : tb < W2.heap.size := by omega
    clear tW oW gW fW htb0 hnd0 hlW hSW hptr ht1 o1 o2 o3 o4 o5 h1n h1f h1p h1g hW2 ob1 hl1 hFs t2 oW2 g2 hkb hke hfl hf1 hm hnd1 htb1 hl1f hS1
    by_cases hm31 : m = 31
    · subst hm31
      obtain ⟨t2, oW2, g2, hf1, htb1, hnd1, hl1f, hS1, h1p, h1g, h1n, hm⟩ := HB.out
      have hsp := split_tree tb g N t1 W2 c1 (by omega) t2 h1g hnd1 (by omega) (by rw [h1n, ← hm]; omega)
      rw [h1p] at hsp
      clear t2 oW2 g2 hf1 htb1 hnd1 hl1f hS1 h1p h1g h1n hm hins
      go_upto_region 6 with (go_at_call 24; refine hsp.mono ?_; rintro e W3 ⟨L, R, k, vv, rfl, s1, s2, s3, s4, s5, s6, s7⟩)
      clear hsp
      obtain ⟨t2, oW2, g2, hf1, htb1, hnd1, hl1f, hS1, h1p, h1g, h1n, hm⟩ := HB.out
      obtain ⟨W4, hW4⟩ : ∃ W4, W4 = W3.alloc (.cells #[.string k, .int .i64 vv] 30) := ⟨_, rfl⟩
      obtain ⟨bx, hbx⟩ : ∃ bx, bx = W3.heap.size := ⟨_, rfl⟩
      rw [← hW4, ← hbx]
      have hF34 : Fr (fun _ => False) W3 W4 := by rw [hW4]; exact (Fr.refl _ _).alloc _
      have ob4 : W4.heap[bx]? = some (.cells #[.string k, .int .i64 vv] 30 (0, 0)) := by
        rw [hW4, hbx]
        show (W3.heap.push _)[W3.heap.size]? = _
        simp
      have ob3 := s7.out htb1 htb2
      have hz3 := s7.fr.size
      have oW3 := ob3.2.trans oW2
      have oW4 := (hF34.block tb (by omega) (fun h => h)).trans oW3
      have g3 := s7.trans (Grow.still hF34 s7.lt s7.nd)
      have c4 := tree_cell0 oW4
      have hlens : L.flat.length + 1 + R.flat.length = t1.flat.length := by rw [s4]; simp; omega
      have hz4 := hF34.size
      have hrs := raise_tree tb g N L R k vv W4 c4.2.1 (by omega) (s5.still hF34) (s6.still hF34) g3.nd (by omega) (by omega)
      have hLp : L.ptr = .pointer (some ⟨n'.b, 0, none⟩) := by unfold GT.ptr; rw [s1, h1n]
      rw [hLp] at hrs
      unfold GT.ptr at hrs
      have x0 : W4.cell? ⟨bx, 0, none⟩ = some (.string k) := by simp [World.cell?, ob4]
      have x1 : W4.cell? ⟨bx, 1, none⟩ = some (.int .i64 vv) := by simp [World.cell?, ob4]
      have htb4 : tb < W4.heap.size := by omega
      have HC := Lib.hid (And.intro oW4 (And.intro g3 (And.intro s4 (And.intro g2 (And.intro hf1 (And.intro htb1 (And.intro hnd1 (And.intro hS1 (And.intro hl1f t2)))))))))
      clear t2 oW2 g2 hf1 htb1 hnd1 hl1f hS1 h1p h1g h1n hm hW4 hbx hF34 ob4 ob3 oW3 oW4 g3 c4 hlens hLp s1 s2 s3 s4 s5 s6 s7 c0 c1 f0 c3
      go_upto_region 7 with (go_at_call 25; refine hrs.mono ?_; rintro e W5 ⟨T, rfl, u1, u2, u3, u4, u5⟩; have e1 := (u5.block tb htb4 (fun h => h)).trans HC.out.1; have e2 := tree_cell0 e1; have e3 := e2.1; have e5 := e2.2.2; clear e1 e2)
      clear hrs x0 x1 e3 e5
      obtain ⟨oW4, g3, s4, g2, hf1, htb1, hnd1, hS1, hl1f, t2⟩ := HC.out
      obtain ⟨W6, hW6⟩ : ∃ W6, W6 = W5.setCell ⟨tb, 0, none⟩ (.pointer (some ⟨T.nd.b, 0, none⟩)) := ⟨_, rfl⟩
      rw [← hW6]
      have g5 : Grow (t1.fp g) W2 W5 (T.fp g) := g3.trans u4
      have ob5 := g5.out htb1 htb2
      have oW5 := (u5.block tb htb4 (fun h => h)).trans oW4
      have hz5 := g5.fr.size
      have hFs6 : Fr (fun j => j = tb) W5 W6 := by rw [hW6]; exact (Fr.refl (fun j => j = tb) W5).setCell (.inl rfl) _
      have tW6 : Tree g N W6 T := u3.fr hFs6 (fun i hi h => by have h' : i = tb := h; omega) (fun x hx h => ob5.1 (h ▸ hx))
      have oW6 : W6.heap[tb]? = some (treeObj T.ptr g) := by rw [hW6]; exact tree_set oW5 _
      have g6 : Grow (tb :: Root.fp g (some ⟨h, t⟩)) w W6 (tb :: T.fp g) := by
        refine (g2.trans (g5.cons htb1 htb2 hnd1 (fun x hx => (t2.fp_lt x hx).2))).trans ?_
        rw [hW6]
        exact Grow.store _ ob5.1 (by omega) g5.nd g5.lt
      have hf6 : T.flat = Root.flat (some ⟨h, t⟩) := by rw [u2, ← s4]; exact hf1
      have hz6 := g6.fr.size
      obtain ⟨c0, c1, f0⟩ := tree_cell0 oW6
      have hins := insert_tree tb g N key v T W6 c1 (List.nodup_cons.1 g6.nd).1 (by omega) tW6 u1 (List.nodup_cons.1 g6.nd).2 (by rw [hf6]; omega) (by rw [hf6]; exact hS)
      have HD := Lib.hid (And.intro oW6 (And.intro g6 (And.intro hf6 tW6)))
      unfold GT.ptr at c0 hins
      clear oW4 g3 s4 g2 hf1 htb1 hnd1 hS1 hl1f t2 hW6 g5 ob5 oW5 hFs6 tW6 oW6 g6 hf6 u1 u2 u3 u4 u5
      go_wp2_with (go_at_call 26; refine hins.mono ?_; rintro e W7 ⟨t', ad, gr, rfl, q1, q2, q3, q4, q5, q6⟩)
      go_end0
      obtain ⟨oW6, g6, hf6, tW6⟩ := HD.out
      have ob7 := q5.out (List.nodup_cons.1 g6.nd).1 (by omega)
      refine ⟨_, t', rfl, by simp [Root.height], by rw [q3, hf6], ?_, q4, ?_, g6.trans (q5.cons (List.nodup_cons.1 g6.nd).1 (by omega) (List.nodup_cons.1 g6.nd).2 (fun x hx => (tW6.fp_lt x hx).2))⟩
      · rw [← hf6]
        rcases q6 with ⟨_, _, l1, _⟩ | ⟨_, _, l1, _⟩
        · exact .inl l1
        · exact .inr l1
      · rw [ob7.2, oW6]
        unfold GT.ptr
        rw [q1]
    · have hm31' : ¬ ((m : Int) = 31) := by omega
      go_wp2_with (go_at_call 26; refine hins.mono ?_; rintro e W7 ⟨t', ad, gr, rfl, q1, q2, q3, q4, q5, q6⟩)
      go_end0
      obtain ⟨t2, oW2, g2, hf1, htb1, hnd1, hl1f, hS1, h1p, h1g, h1n, hm⟩ := HB.out
      have ob7 := q5.out htb1 htb2
      refine ⟨_, t', rfl, by simp [Root.height], by rw [q3, hf1], ?_, q4, ?_, g2.trans (q5.cons htb1 htb2 hnd1 (fun x hx => (t2.fp_lt x hx).2))⟩
      · rw [← hf1]
        rcases q6 with ⟨_, _, l1, _⟩ | ⟨_, _, l1, _⟩
        · exact .inl l1
        · exact .inr l1
      · rw [ob7.2, oW2]
        unfold GT.ptr
        rw [q1]
end Go.Proofs.Ybulkbrzk.BT
