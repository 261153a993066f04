/-
  A kid of a node turns: the tree around it.
-/
import Derived.Test.YbulkbrzkLeaf
namespace Go.Proofs.Ybulkbrzk.BT
open Go Go.RowKit
set_option linter.unusedVariables false

/-- a node upon its kids -/
abbrev nk {h : Nat} (n : Nd) (ks : List (GT h)) : GT (h + 1) := (n, ks)

section
variable {g N h : Nat} {n : Nd} {A B : List (GT h)} {K : GT h}

theorem focus_fp : (nk n (A ++ K :: B)).fp g = (n.own g true ++ A.flatMap (GT.fp g)) ++ K.fp g ++ B.flatMap (GT.fp g) := by
  show n.own g true ++ (A ++ K :: B).flatMap (GT.fp g) = _
  rw [List.flatMap_append, List.flatMap_cons, List.append_assoc, List.append_assoc]

theorem focus_nd (hnd : ((nk n (A ++ K :: B)).fp g).Nodup) : (∀ k, k ∈ A ∨ k ∈ B → ∀ x, x ∈ k.fp g → x ∉ n.own g true ∧ x ∉ K.fp g) ∧ (∀ x, x ∈ K.fp g → x ∉ n.own g true) ∧ (n.own g true).Nodup ∧ (K.fp g).Nodup := by
  have h0 : (n.own g true ++ (A ++ K :: B).flatMap (GT.fp g)).Nodup := hnd
  rw [List.flatMap_append, List.flatMap_cons] at h0
  obtain ⟨hX, h1, h2⟩ := List.nodup_append.1 h0
  obtain ⟨_, h3, h4⟩ := List.nodup_append.1 h1
  obtain ⟨hK, _, h6⟩ := List.nodup_append.1 h3
  refine ⟨fun k hk x hx => ⟨fun hm => ?_, fun hm => ?_⟩, fun x hx hm => ?_, hX, hK⟩
  · refine h2 x hm x ?_ rfl
    simp only [List.mem_append, List.mem_flatMap]
    rcases hk with hk | hk
    · exact .inl ⟨k, hk, hx⟩
    · exact .inr (.inr ⟨k, hk, hx⟩)
  · rcases hk with hk | hk
    · exact h4 x (List.mem_flatMap.2 ⟨k, hk, hx⟩) x (List.mem_append.2 (.inl hm)) rfl
    · exact h6 x hm x (List.mem_flatMap.2 ⟨k, hk, hx⟩) rfl
  · exact h2 x hm x (List.mem_append.2 (.inr (List.mem_append.2 (.inl hx)))) rfl

/-- the kids beside the one that turns stand -/
theorem others {W W' : World} {S : Nat → Prop} (hT : Tree g N W (nk n (A ++ K :: B))) (hnd : ((nk n (A ++ K :: B)).fp g).Nodup) (hF : Fr S W W') (hS : ∀ i, S i → i < W.heap.size → i ∈ K.fp g ∨ i ∈ n.own g true) : ∀ k, k ∈ A ∨ k ∈ B → Tree g N W' k := fun k hk => by
  have hm : k ∈ A ++ K :: B := by rcases hk with hk | hk <;> simp [hk]
  have hF' : Fr (fun i => S i ∧ i < W.heap.size) W W' := hF.mono (fun i hi h => ⟨h, hi⟩)
  refine (hT.2.2.2.2 k hm).fr hF' (fun i hi h => ?_) (fun x hx h => ?_)
  · have : i ∈ (nk n (A ++ K :: B)).fp g := by
      rw [focus_fp]
      rcases hS i h.1 h.2 with h | h <;> simp [h]
    have := (hT.fp_lt i this).1
    omega
  · have := (focus_nd hnd).1 k hk x hx
    rcases hS x h.1 h.2 with h | h
    · exact this.2 h
    · exact this.1 h

theorem Grow.focus {W W' : World} {F' : List Nat} (hT : Tree g N W (nk n (A ++ K :: B))) (hnd : ((nk n (A ++ K :: B)).fp g).Nodup) (G : Grow (K.fp g) W W' F') : Grow ((nk n (A ++ K :: B)).fp g) W W' ((n.own g true ++ A.flatMap (GT.fp g)) ++ F' ++ B.flatMap (GT.fp g)) := by
  have hl := fun x hx => (hT.fp_lt x hx).2
  rw [focus_fp] at hnd hl ⊢
  exact G.ctx hnd (fun x hx => hl x (by
    rcases hx with hx | hx
    · exact List.mem_append.2 (.inl (List.mem_append.2 (.inl hx)))
    · exact List.mem_append.2 (.inr hx)))

theorem weave_len {ks : List (GT h)} {es : List E} {ks' : List (GT h)} (h : ks.map GT.flat = ks'.map GT.flat) : weave (ks.map GT.flat) es = weave (ks'.map GT.flat) es := by rw [h]

/-- THE KID IS OWNED: another node upon the same entries in its place -/
theorem set_kid {K' : GT h} {w W1 : World} (hT : Tree g N w (nk n (A ++ K :: B))) (hgen : n.gen = g) (hnd : ((nk n (A ++ K :: B)).fp g).Nodup) (hF : Fr (fun _ => False) w W1) (hK' : Tree g N W1 K') (hfl : K'.flat = K.flat) (G : Grow (K.fp g) w W1 (K'.fp g)) :
    Tree g N (W1.setCell ⟨n.kb, A.length, none⟩ K'.ptr) (nk n (A ++ K' :: B)) ∧ Grow ((nk n (A ++ K :: B)).fp g) w (W1.setCell ⟨n.kb, A.length, none⟩ K'.ptr) ((nk n (A ++ K' :: B)).fp g) := by
  have G1 : Grow ((nk n (A ++ K :: B)).fp g) w W1 ((nk n (A ++ K' :: B)).fp g) := by
    have := Grow.focus hT hnd G
    rwa [← focus_fp] at this
  have hd' := focus_nd G1.nd
  have hod := own_nd hgen hd'.2.2.1
  have hmo := mem_own (g := g) (kid := true) (n := n) hgen
  have hFs : Fr (fun j => j = n.kb) W1 (W1.setCell ⟨n.kb, A.length, none⟩ K'.ptr) := (Fr.refl (fun j => j = n.kb) W1).setCell (.inl rfl) _
  have hlie : n.lies g N true := hT.2.2.1
  unfold Nd.lies at hlie
  rw [if_pos hgen] at hlie
  have hFall : Fr (fun j => j = n.kb) w (W1.setCell ⟨n.kb, A.length, none⟩ K'.ptr) := (hF.mono (fun _ _ h => h.elim)).trans hFs (fun _ _ h => h)
  refine ⟨⟨?_, ?_, hT.2.2.1, fun h => (h hgen).elim, ?_⟩, ?_⟩
  · obtain ⟨cap, kv, hb, he, kcap, rfl, hk⟩ := hT.1
    have hfeq : (A ++ K' :: B).map GT.flat = (A ++ K :: B).map GT.flat := by simp [hfl]
    rw [hfeq]
    refine ⟨cap, .slice (some ⟨n.kb, 0, none⟩) ((A ++ K :: B).map fun k => k.nd.b).length kcap, ?_, ?_, kcap, ?_, ?_⟩
    · exact (hFall.block n.b (Array.getElem?_eq_some_iff.1 hb).1 (hod.2 rfl).1).trans hb
    · exact row_fr he hFall (hod.2 rfl).2
    · simp
    · have hk1 := row_fr hk hF (fun h => h)
      have hset := row_set hk1 (j := A.length) (by simp) K'.ptr
      have e1 : (ptrs ((A ++ K :: B).map fun k => k.nd.b)).set A.length K'.ptr = ptrs ((A ++ K' :: B).map fun k => k.nd.b) := by simp [ptrs, GT.ptr]
      rw [e1] at hset
      have e2 : ((A ++ K :: B).map fun k => k.nd.b).length = ((A ++ K' :: B).map fun k => k.nd.b).length := by simp
      rw [e2] at hset ⊢
      exact hset
  · have := hT.2.1
    simpa using this
  · intro k hk
    rcases List.mem_append.1 hk with hk | hk
    · exact others hT hnd hFall (fun i h _ => .inr (by rw [h]; exact hmo.2.2 rfl)) k (.inl hk)
    · rcases List.mem_cons.1 hk with rfl | hk
      · exact hK'.fr hFs (fun i hi h => by have := hlie.2.2 rfl; have h' : i = n.kb := h; omega) (fun x hx h => hd'.2.1 x hx (by rw [h]; exact hmo.2.2 rfl))
      · exact others hT hnd hFall (fun i h _ => .inr (by rw [h]; exact hmo.2.2 rfl)) k (.inr hk)
  · exact G1.trans (Grow.same hFs (fun i hi h => by rw [h, focus_fp]; simp [hmo.2.2 rfl]) G1.lt G1.nd)

/-- THE KID HAS TURNED: the node's counts follow -/
theorem grow_kid {K' : GT h} {W W1 W2 : World} {cap kcap : Nat} (hT : Tree g N W (nk n (A ++ K :: B))) (hgen : n.gen = g) (hnd : ((nk n (A ++ K :: B)).fp g).Nodup) (hK' : Tree g N W1 K') (hkb : K'.nd.b = K.nd.b) (G : Grow (K.fp g) W W1 (K'.fp g)) (hF : Fr (fun j => j = n.b) W1 W2)
    (he : W.ownsRow 0 30 2 (.slice (some ⟨n.eb, 0, none⟩) n.es.length cap) n.es.length (n.es.flatMap eCells)) (hk : W.ownsRow 0 23 1 (.slice (some ⟨n.kb, 0, none⟩) (A ++ K :: B).length kcap) (A ++ K :: B).length (ptrs ((A ++ K :: B).map fun k => k.nd.b)))
    (hb : W2.heap[n.b]? = some (nodeObj g (nk n (A ++ K' :: B)).flat.length (wr (bytes (nk n (A ++ K' :: B)).flat)) (.slice (some ⟨n.eb, 0, none⟩) n.es.length cap) (.slice (some ⟨n.kb, 0, none⟩) (A ++ K :: B).length kcap))) :
    Tree g N W2 (nk n (A ++ K' :: B)) ∧ Grow ((nk n (A ++ K :: B)).fp g) W W2 ((nk n (A ++ K' :: B)).fp g) := by
  have G1 : Grow ((nk n (A ++ K :: B)).fp g) W W1 ((nk n (A ++ K' :: B)).fp g) := by
    have := Grow.focus hT hnd G
    rwa [← focus_fp] at this
  have hd := focus_nd hnd
  have hd' := focus_nd G1.nd
  have hod := own_nd hgen hd'.2.2.1
  have hmo := mem_own (g := g) (kid := true) (n := n) hgen
  have hlie : n.lies g N true := hT.2.2.1
  unfold Nd.lies at hlie
  rw [if_pos hgen] at hlie
  have hFall : Fr (fun j => j ∈ K.fp g ∨ j = n.b) W W2 := (G.fr.mono (fun _ _ h => .inl h)).trans hF (fun _ _ h => .inr h)
  have hnot : ∀ j, j ∈ n.own g true → j ≠ n.b → ¬ (j ∈ K.fp g ∨ j = n.b) := fun j hj hjb h => by
    rcases h with h | h
    · exact hd.2.1 j h hj
    · exact hjb h
  have hS : ∀ i, (i ∈ K.fp g ∨ i = n.b) → i < W.heap.size → i ∈ K.fp g ∨ i ∈ n.own g true := fun i h _ => h.elim (fun h => .inl h) (fun h => .inr (by rw [h]; exact hmo.1))
  refine ⟨⟨?_, ?_, hT.2.2.1, fun h => (h hgen).elim, ?_⟩, ?_⟩
  · have hb' := hb
    rw [← hgen] at hb'
    refine ⟨cap, .slice (some ⟨n.kb, 0, none⟩) (A ++ K :: B).length kcap, hb', ?_, kcap, by simp, ?_⟩
    · exact row_fr he hFall (hnot _ hmo.2.1 (fun h => hod.1 h.symm))
    · have h1 := row_fr hk hFall (hnot _ (hmo.2.2 rfl) (fun h => (hod.2 rfl).1 h.symm))
      have e1 : (A ++ K' :: B).map (fun k => k.nd.b) = (A ++ K :: B).map fun k => k.nd.b := by simp [hkb]
      have e2 : ((A ++ K :: B).map fun k => k.nd.b).length = (A ++ K :: B).length := by simp
      rw [e1, e2]
      exact h1
  · have := hT.2.1
    simpa using this
  · intro k hk
    rcases List.mem_append.1 hk with hk | hk
    · exact others hT hnd hFall hS k (.inl hk)
    · rcases List.mem_cons.1 hk with rfl | hk
      · exact hK'.fr hF (fun i hi h => by have := hlie.1; have h' : i = n.b := h; omega) (fun x hx h => hd'.2.1 x hx (by rw [h]; exact hmo.1))
      · exact others hT hnd hFall hS k (.inr hk)
  · exact G1.trans (Grow.same hF (fun i hi h => by rw [h, focus_fp]; simp [hmo.1]) G1.lt G1.nd)

theorem Grow.swap2 {w w' : World} {S : Nat → Prop} {eb' kb' : Nat} {es' : List E} (R : List Nat) (hgen : n.gen = g) (hF : Fr S w w') (hs : ∀ i, i < w.heap.size → S i → i ∈ n.own g true) (hl : ∀ x, x ∈ n.own g true ++ R → x < w.heap.size) (hn : (n.own g true ++ R).Nodup)
    (ha : eb' = n.eb ∨ (w.heap.size ≤ eb' ∧ eb' < w'.heap.size)) (hk : kb' = n.kb ∨ (w.heap.size ≤ kb' ∧ kb' < w'.heap.size)) (hne : eb' ≠ kb') :
    Grow (n.own g true ++ R) w w' ((⟨n.b, eb', kb', n.gen, es'⟩ : Nd).own g true ++ R) := by
  have e1 : n.own g true ++ R = n.b :: n.eb :: n.kb :: R := by unfold Nd.own; rw [if_pos hgen]; simp
  have e2 : (⟨n.b, eb', kb', n.gen, es'⟩ : Nd).own g true ++ R = n.b :: eb' :: kb' :: R := by unfold Nd.own; rw [if_pos hgen]; simp
  have hs' : ∀ i, i < w.heap.size → S i → i ∈ n.own g true ++ R := fun i hi h => List.mem_append.2 (.inl (hs i hi h))
  rw [e2]
  rw [e1] at hl hn hs' ⊢
  have hsz := hF.size
  have l1 := hl n.b (by simp)
  have l2 := hl n.eb (by simp)
  have l3 := hl n.kb (by simp)
  have l4 : ∀ x, x ∈ R → x < w.heap.size := fun x hx => hl x (by simp [hx])
  simp only [List.nodup_cons, List.mem_cons, not_or] at hn
  obtain ⟨⟨h1, h2, h3⟩, ⟨h4, h5⟩, h6, h7⟩ := hn
  have q1 : eb' ∉ R := fun h => by
    rcases ha with rfl | ha
    · exact h5 h
    · have := l4 _ h; omega
  have q2 : kb' ∉ R := fun h => by
    rcases hk with rfl | hk
    · exact h6 h
    · have := l4 _ h; omega
  refine ⟨hF.mono hs', fun x hx => ?_, fun x hx => ?_, ?_⟩
  · simp only [List.mem_cons] at hx ⊢
    rcases hx with rfl | rfl | rfl | hx
    · exact .inl (.inl rfl)
    · rcases ha with h | h
      · exact .inl (.inr (.inl h))
      · exact .inr h.1
    · rcases hk with h | h
      · exact .inl (.inr (.inr (.inl h)))
      · exact .inr h.1
    · exact .inl (.inr (.inr (.inr hx)))
  · simp only [List.mem_cons] at hx
    rcases hx with rfl | rfl | rfl | hx
    · omega
    · omega
    · omega
    · have := l4 x hx; omega
  · simp only [List.nodup_cons, List.mem_cons, not_or]
    exact ⟨⟨by omega, by omega, h3⟩, ⟨hne, q1⟩, q2, h7⟩

/-- THE KID IS SPLIT: its halves in its place, the entry between them -/
theorem split_kid {L R : GT h} {k : ByteArray} {v : Int} {W2 W3 W6 : World} {eb' kb' cap' kcap' : Nat} (hT : Tree g N W2 (nk n (A ++ K :: B))) (hgen : n.gen = g) (hnd : ((nk n (A ++ K :: B)).fp g).Nodup) (hN : N ≤ W2.heap.size)
    (hL : Tree g N W3 L) (hR : Tree g N W3 R) (hfl : K.flat = L.flat ++ (k, v) :: R.flat) (G : Grow (K.fp g) W2 W3 (L.fp g ++ R.fp g)) (hF : Fr (fun j => j ∈ n.own g true) W3 W6)
    (hb : W6.heap[n.b]? = some (nodeObj g (nk n (A ++ K :: B)).flat.length (wr (bytes (nk n (A ++ K :: B)).flat)) (.slice (some ⟨eb', 0, none⟩) (n.es.length + 1) cap') (.slice (some ⟨kb', 0, none⟩) ((A ++ K :: B).length + 1) kcap')))
    (he : W6.ownsRow 0 30 2 (.slice (some ⟨eb', 0, none⟩) (n.es.length + 1) cap') (n.es.length + 1) ((n.es.take A.length ++ (k, v) :: n.es.drop A.length).flatMap eCells))
    (hk : W6.ownsRow 0 23 1 (.slice (some ⟨kb', 0, none⟩) ((A ++ K :: B).length + 1) kcap') ((A ++ K :: B).length + 1) (ptrs ((A ++ L :: R :: B).map fun k => k.nd.b)))
    (heb : eb' = n.eb ∨ W3.heap.size ≤ eb') (hkb : kb' = n.kb ∨ W3.heap.size ≤ kb') (hne : eb' ≠ kb') :
    Tree g N W6 (nk ⟨n.b, eb', kb', n.gen, n.es.take A.length ++ (k, v) :: n.es.drop A.length⟩ (A ++ L :: R :: B)) ∧
    Grow ((nk n (A ++ K :: B)).fp g) W2 W6 ((nk ⟨n.b, eb', kb', n.gen, n.es.take A.length ++ (k, v) :: n.es.drop A.length⟩ (A ++ L :: R :: B)).fp g) ∧
    (nk ⟨n.b, eb', kb', n.gen, n.es.take A.length ++ (k, v) :: n.es.drop A.length⟩ (A ++ L :: R :: B)).flat = (nk n (A ++ K :: B)).flat := by
  have hkl : (A ++ K :: B).length = n.es.length + 1 := hT.2.1
  rw [List.length_append, List.length_cons] at hkl
  have e2 : (n.es.take A.length).length = A.length := by rw [List.length_take]; omega
  have e3 : (n.es.drop A.length).length = B.length := by rw [List.length_drop]; omega
  have hflat : (nk ⟨n.b, eb', kb', n.gen, n.es.take A.length ++ (k, v) :: n.es.drop A.length⟩ (A ++ L :: R :: B)).flat = (nk n (A ++ K :: B)).flat := by
    show weave ((A ++ L :: R :: B).map GT.flat) (n.es.take A.length ++ (k, v) :: n.es.drop A.length) = weave ((A ++ K :: B).map GT.flat) n.es
    have w1 := weave_split (A.map GT.flat) L.flat (R.flat :: B.map GT.flat) (n.es.take A.length) ((k, v) :: n.es.drop A.length) (by rw [List.length_map, e2]) (by rw [List.length_cons, List.length_cons, List.length_map, e3])
    have w2 := weave_split (A.map GT.flat) K.flat (B.map GT.flat) (n.es.take A.length) (n.es.drop A.length) (by rw [List.length_map, e2]) (by rw [List.length_map, e3])
    rw [List.take_append_drop] at w2
    have m1 : (A ++ L :: R :: B).map GT.flat = A.map GT.flat ++ L.flat :: (R.flat :: B.map GT.flat) := by simp
    have m2 : (A ++ K :: B).map GT.flat = A.map GT.flat ++ K.flat :: B.map GT.flat := by simp
    rw [m1, m2, w1, w2, hfl]
    simp [aft]
  have hlen : (n.es.take A.length ++ (k, v) :: n.es.drop A.length).length = n.es.length + 1 := by rw [List.length_append, List.length_cons, e2, e3]; omega
  have hd := focus_nd hnd
  have hod := own_nd hgen hd.2.2.1
  have hmo := mem_own (g := g) (kid := true) (n := n) hgen
  have hlie : n.lies g N true := hT.2.2.1
  unfold Nd.lies at hlie
  rw [if_pos hgen] at hlie
  have hz := G.fr.size
  have hz6 := hF.size
  have hebl := (he.lt eb' rfl).2
  have hkbl := (hk.lt kb' rfl).2
  have G1 := Grow.focus hT hnd G
  have hassoc : (n.own g true ++ A.flatMap (GT.fp g)) ++ (L.fp g ++ R.fp g) ++ B.flatMap (GT.fp g) = n.own g true ++ (A ++ L :: R :: B).flatMap (GT.fp g) := by simp [List.append_assoc]
  rw [hassoc] at G1
  have hNd1 := List.nodup_append.1 G1.nd
  have hFall : Fr (fun j => j ∈ K.fp g ∨ j ∈ n.own g true) W2 W6 := (G.fr.mono (fun _ _ h => .inl h)).trans hF (fun _ _ h => .inr h)
  have hcross : ∀ (x : Nat) (T : GT h), T ∈ A ++ L :: R :: B → x ∈ T.fp g → x ∉ n.own g true := fun x T hTm hx hm => hNd1.2.2 x hm x (List.mem_flatMap.2 ⟨T, hTm, hx⟩) rfl
  have hNS : ∀ i, i < N → ¬ i ∈ n.own g true := fun i hi hm => by
    have := (hT.fp_lt i (List.mem_append.2 (.inl hm))).1
    omega
  refine ⟨⟨?_, ?_, lies_of hgen hlie.1 (by show N ≤ eb'; omega) (fun _ => by have := hlie.2.2 rfl; show N ≤ kb'; omega), fun h => (h hgen).elim, ?_⟩, ?_, hflat⟩
  · have hb' := hb
    rw [← hgen, ← hflat] at hb'
    refine ⟨cap', .slice (some ⟨kb', 0, none⟩) ((A ++ K :: B).length + 1) kcap', ?_, ?_, kcap', by simp; omega, ?_⟩
    · dsimp only
      rw [hlen]
      exact hb'
    · dsimp only
      rw [hlen]
      exact he
    · have : ((A ++ L :: R :: B).map fun k => k.nd.b).length = (A ++ K :: B).length + 1 := by simp; omega
      rw [this]
      exact hk
  · show (A ++ L :: R :: B).length = (n.es.take A.length ++ (k, v) :: n.es.drop A.length).length + 1
    rw [hlen]
    simp
    omega
  · intro T hTm
    have hc := hcross
    rcases List.mem_append.1 hTm with hm | hm
    · exact others hT hnd hFall (fun i h _ => h) T (.inl hm)
    · rcases List.mem_cons.1 hm with rfl | hm
      · exact hL.fr hF hNS (fun x hx => hc x _ hTm hx)
      · rcases List.mem_cons.1 hm with rfl | hm
        · exact hR.fr hF hNS (fun x hx => hc x _ hTm hx)
        · exact others hT hnd hFall (fun i h _ => h) T (.inr hm)
  · exact G1.trans (Grow.swap2 _ hgen hF (fun i hi h => h) G1.lt G1.nd (by omega) (by omega) hne)
end
end Go.Proofs.Ybulkbrzk.BT
