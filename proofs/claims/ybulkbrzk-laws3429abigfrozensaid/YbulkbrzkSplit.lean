/-
  split: the upper half goes to a new node.
-/
import Derived.Test.YbulkbrzkNodeOf
import Derived.Test.YbulkbrzkClear
import Derived.Laws.ResultCell
namespace Go.Proofs.Ybulkbrzk.BT
open Go Go.RowKit
set_option linter.unusedVariables false

def Kids.drop (n : Nat) : Kids → Kids
  | none => none
  | some l => some (l.drop n)
def Kids.take (n : Nat) : Kids → Kids
  | none => none
  | some l => some (l.take n)
def Kids.bs : Kids → Option (List Nat)
  | none => none
  | some l => some (l.map (·.1))

set_option maxRecDepth 100000 in
set_option maxHeartbeats 1000000 in
theorem nodeOf_nil (tb cap : Nat) (a : Option Addr) (w : World) : Calls Yba.prog 31 #[.pointer (some ⟨tb, 0, none⟩), .slice a 0 cap, .slice none 0 0] w fun e w' => e = .returned (.pointer none) ∧ w' = w := by
  have hkn := kids_nil' w
  go_enter Yba.func31, Yba.ntmps31
  go_wp2_with fail
  go_ret
  exact ⟨rfl, rfl⟩

set_option maxRecDepth 100000 in
set_option maxHeartbeats 1000000 in
theorem nodeOf_one (tb cap kb ko m kcap : Nat) (a : Option Addr) (p : Value) (w : World) (hp : w.cell? ⟨kb, ko, none⟩ = some p) (hm : 0 < m) : Calls Yba.prog 31 #[.pointer (some ⟨tb, 0, none⟩), .slice a 0 cap, .slice (some ⟨kb, ko, none⟩) m kcap] w fun e w' => e = .returned p ∧ w' = w := by
  have hkn := kids_some' w ⟨kb, ko, none⟩ m kcap
  go_enter Yba.func31, Yba.ntmps31
  go_wp2_with fail
  go_ret
  exact ⟨rfl, rfl⟩

theorem ksz_split (l : List (Nat × Nat × Nat)) (j : Nat) : ksz l = ksz (l.take j) + ksz (l.drop j) := by
  unfold ksz
  rw [← List.sum_append, ← List.map_append, List.take_append_drop]
theorem kby_split (l : List (Nat × Nat × Nat)) (j : Nat) : kby l = kby (l.take j) + kby (l.drop j) := by
  unfold kby
  rw [← List.sum_append, ← List.map_append, List.take_append_drop]
theorem ksz_drop_le (l : List (Nat × Nat × Nat)) (j : Nat) : ksz (l.drop j) ≤ ksz l := by
  have := ksz_split l j
  omega

theorem drop_flat : ∀ (es : List E) (n : Nat), (es.drop n).flatMap eCells = (es.flatMap eCells).drop (n * 2)
  | es, 0 => by simp
  | [], n + 1 => by simp
  | e :: es, n + 1 => by
    rw [List.drop_succ_cons, drop_flat es n, List.flatMap_cons, Nat.succ_mul, show n * 2 + 2 = (eCells e).length + n * 2 from by simp [eCells]; omega, List.drop_append]
    simp
theorem take_flat : ∀ (es : List E) (n : Nat), (es.take n).flatMap eCells = (es.flatMap eCells).take (n * 2)
  | es, 0 => by simp
  | [], n + 1 => by simp
  | e :: es, n + 1 => by
    rw [List.take_succ_cons, List.flatMap_cons, take_flat es n, List.flatMap_cons, Nat.succ_mul, show n * 2 + 2 = (eCells e).length + n * 2 from by simp [eCells]; omega, List.take_append]
    rw [List.take_of_length_le (Nat.le_add_right _ _)]
    simp

set_option maxRecDepth 100000 in
set_option maxHeartbeats 4000000 in
theorem split_in (tb g : Nat) (n : Nd) (ks : Kids) (w : World) (hg : w.cell? ⟨tb, 1, none⟩ = some (.int .u64 g)) (hn : NodeAt w n (n.es.length + ks.sz : Nat) (wr (bytes n.es + ks.by_ : Nat)) ks.bs)
    (h3 : 3 ≤ n.es.length) (hl : n.es.length ≤ 4096) (hd : n.b ≠ n.eb ∧ (ks.isSome = true → n.b ≠ n.kb ∧ n.eb ≠ n.kb))
    (hk : ∀ l : List (Nat × Nat × Nat), ks = some l → l.length = n.es.length + 1 ∧ ksz l ≤ 8192 ∧ ∀ (j : Nat) (c : Nat × Nat × Nat), l[j]? = some c → (c.1 ≠ n.b ∧ c.1 ≠ n.eb ∧ c.1 ≠ n.kb) ∧ ∃ g' ev' kv', w.heap[c.1]? = some (nodeObj g' c.2.1 (wr c.2.2) ev' kv')) :
    Calls Yba.prog 24 #[.pointer (some ⟨tb, 0, none⟩), .pointer (some ⟨n.b, 0, none⟩)] w fun e w' => ∃ n' : Nd, e = .returned (.tuple #[.agg #[.string (keyAt n.es (n.es.length / 2)), .int .i64 (valAt n.es (n.es.length / 2))], .pointer (some ⟨n'.b, 0, none⟩)]) ∧ n'.gen = g ∧ n'.es = n.es.drop (n.es.length / 2 + 1) ∧
      NodeAt w' n' (n'.es.length + (ks.drop (n.es.length / 2 + 1)).sz : Nat) (wr (bytes n'.es + (ks.drop (n.es.length / 2 + 1)).by_ : Nat)) (ks.drop (n.es.length / 2 + 1)).bs ∧ (w.heap.size ≤ n'.b ∧ w.heap.size ≤ n'.eb ∧ w.heap.size ≤ n'.kb) ∧ (n'.b ≠ n'.eb ∧ n'.b ≠ n'.kb ∧ n'.eb ≠ n'.kb) ∧
      NodeAt w' { n with es := n.es.take (n.es.length / 2) } ((n.es.take (n.es.length / 2)).length + (ks.take (n.es.length / 2 + 1)).sz : Nat) (wr (bytes (n.es.take (n.es.length / 2)) + (ks.take (n.es.length / 2 + 1)).by_ : Nat)) (ks.take (n.es.length / 2 + 1)).bs ∧
      Fr (fun j => j = n.b ∨ j = n.eb ∨ (ks.isSome = true ∧ j = n.kb)) w w' := by
  obtain ⟨b, eb, kb, gen, es⟩ := n
  dsimp only at *
  obtain ⟨cap, kv, hb0, he0, hk0⟩ := hn
  dsimp only at hb0 he0 hk0
  obtain ⟨L, hL⟩ : ∃ L, L = es.length := ⟨_, rfl⟩
  obtain ⟨H, hH⟩ : ∃ H, H = L / 2 := ⟨_, rfl⟩
  rw [← hL] at he0 hb0 hl h3
  rw [← hL, ← hH]
  have hH1 : H + 1 < L := by omega
  have hH2 : ((L : Int).tdiv 2) = H := by rw [Int.tdiv_eq_ediv_of_nonneg (by omega)]; omega
  have hb : w.heap[b]? = some (nodeObj gen (L + ks.sz : Nat) (wr (bytes es + ks.by_ : Nat)) (.slice (some ⟨eb, 0, none⟩) L cap) kv) := hb0
  obtain ⟨hLc, hcm, cur, hgc, hcs, hct⟩ := row_open he0
  have c3 : w.cell? ⟨b, 3, none⟩ = some (.slice (some ⟨eb, 0, none⟩) L cap) := node_cell hb 3
  have c4 : w.cell? ⟨b, 4, none⟩ = some kv := node_cell hb 4
  have hbl : b < w.heap.size := (Array.getElem?_eq_some_iff.1 hb).1
  have hebl : eb < w.heap.size := (Array.getElem?_eq_some_iff.1 hgc).1
  obtain ⟨q0, q1⟩ := entry_cells (es := es) (by rw [← hL]; exact he0) H (by omega)
  obtain ⟨k, hkd⟩ : ∃ k, k = keyAt es H := ⟨_, rfl⟩
  obtain ⟨v, hvd⟩ : ∃ v, v = valAt es H := ⟨_, rfl⟩
  rw [← hkd] at q0
  rw [← hvd] at q1
  rw [← hkd, ← hvd]
  have HH := Lib.hid (And.intro hL (And.intro hH (And.intro hb (And.intro he0 (And.intro hk0 (And.intro hgc (And.intro hct (And.intro hcs (And.intro hkd hvd)))))))))
  have Hk := Lib.hid hk
  clear hL hH hb0 hb he0 hk0 hgc hct hcs hkd hvd hk
  go_enter Yba.func24, Yba.ntmps24
  go_upto_region 4 with fail
  obtain ⟨W2, hW2⟩ : ∃ W2, W2 = (w.alloc (.cells #[.string ⟨#[]⟩, .int .i64 0] 30)).alloc (.cells #[.string k, .int .i64 v] 30) := ⟨_, rfl⟩
  obtain ⟨b4, hb4⟩ : ∃ b4, b4 = w.heap.size := ⟨_, rfl⟩
  rw [← hW2, ← hb4]
  have hF2 : Fr (fun _ => False) w W2 := by rw [hW2]; exact ((Fr.refl _ _).alloc _).alloc _
  have o4 : W2.heap[b4]? = some (.cells #[.string ⟨#[]⟩, .int .i64 0] 30 (0, 0)) := by
    rw [hW2, hb4]
    refine heap_alloc' ?_
    show (w.heap.push _)[w.heap.size]? = _
    simp
  have o7 : W2.heap[b4 + 1]? = some (.cells #[.string k, .int .i64 v] 30 (0, 0)) := by
    rw [hW2, hb4]
    show ((w.heap.push _).push _)[w.heap.size + 1]? = _
    rw [Array.getElem?_push]
    simp
  have z2 : W2.heap.size = b4 + 2 := by rw [hW2, hb4]; simp
  have hg2 : W2.cell? ⟨tb, 1, none⟩ = some (.int .u64 g) := (hF2.cell (p := ⟨tb, 1, none⟩) (World.block_lt_of_cell? _ _ hg) (fun h => h)).trans hg
  have hb2 := (hF2.block b hbl (fun h => h)).trans HH.out.2.2.1
  have d4 : W2.cell? ⟨b, 4, none⟩ = some kv := node_cell hb2 4
  have d3 : W2.cell? ⟨b, 3, none⟩ = some (.slice (some ⟨eb, 0, none⟩) L cap) := node_cell hb2 3
  obtain ⟨kcap, hkv, hkr⟩ : ∃ kcap, kv = kval kb 0 kcap ks ∧ ∀ l, ks = some l → l.length ≤ kcap ∧ w.ownsRow 0 23 1 (.slice (some ⟨kb, 0, none⟩) l.length kcap) l.length (ptrs (l.map (·.1))) := by
    cases ks with
    | none => exact ⟨0, HH.out.2.2.2.2.1, fun l h => by cases h⟩
    | some l =>
      obtain ⟨kcap, e1, e2⟩ := HH.out.2.2.2.2.1
      rw [List.length_map] at e1
      refine ⟨kcap, e1, fun l' h => ?_⟩
      cases h
      rw [e1] at e2
      rw [List.length_map] at e2
      exact ⟨(row_open e2).1, e2⟩
  have hc2 : ∀ j u, ((es.drop (H + 1)).flatMap eCells)[j]? = some u → W2.cell? ⟨eb, (H + 1) * 2 + j, none⟩ = some u := fun j u hu => by
    have e1 : ((es.drop (H + 1)).flatMap eCells) = (es.flatMap eCells).drop ((H + 1) * 2) := drop_flat es (H + 1)
    rw [e1, List.getElem?_drop] at hu
    rw [hF2.cell (p := ⟨eb, (H + 1) * 2 + j, none⟩) hebl (fun h => h)]
    have := row_add HH.out.2.2.2.1 ((H + 1) * 2 + j) u hu
    rw [addr_add, Nat.zero_add] at this
    exact this
  have hd2 : (es.drop (H + 1)).length = L - (H + 1) := by rw [List.length_drop, HH.out.1]
  have hbs : bytes es = bytes (es.take H) + k.size + bytes (es.drop (H + 1)) := by
    have := bytes_take_succ es H (by have := HH.out.1; omega)
    have h2 := bytes_append (es.take (H + 1)) (es.drop (H + 1))
    rw [List.take_append_drop] at h2
    rw [HH.out.2.2.2.2.2.2.2.2.1]
    omega
  have HC : Hid (∀ W3 : World, Fr (fun _ => False) W2 W3 → ∃ W4, (Builtin.clear_ #[27] 0 #[.slice (some ⟨eb, H * 2, none⟩) (L - H) (cap - H)]).run Yba.prog W3 = .ok (.tuple #[]) W4 ∧ W4.ownsRow 0 30 2 (.slice (some ⟨eb, 0, none⟩) H cap) H ((es.take H).flatMap eCells) ∧ Fr (fun j => j = eb) W3 W4) := Lib.hid fun W3 h => by
    have r3 := row_fr (row_fr HH.out.2.2.2.1 hF2 (fun h => h)) h (fun h => h)
    have := clearE W3 0 eb L cap H _ r3 (by omega)
    rw [take_flat es H]
    exact this
  have Hkr := Lib.hid (And.intro hkv (And.intro hkr (And.intro hc2 (And.intro hd2 hbs))))
  have H2 := Lib.hid (And.intro hW2 (And.intro hb4 (And.intro z2 (And.intro hb2 (And.intro o4 o7)))))
  have hb4b : b < b4 ∧ eb < b4 ∧ w.heap.size ≤ b4 := by omega
  have h4l : b4 + 1 < W2.heap.size := by omega
  clear hW2 hb4 hkv hkr c3 c4 q0 q1 z2 hb2 hg hc2 hd2 hbs o4 o7
  cases ks with
  | none =>
    obtain rfl : kv = .slice none 0 0 := Hkr.out.1
    have hkn := fun W => kids_nil W
    have hno := nodeOf_in tb g eb ((H + 1) * 2) (cap - (H + 1)) kb 0 0 (es.drop (H + 1)) none W2 hg2 (by rw [Hkr.out.2.2.2.1]; omega) Hkr.out.2.2.1 (by rw [Hkr.out.2.2.2.1]; omega) (fun l h => by cases h)
    rw [Hkr.out.2.2.2.1] at hno
    go_upto_region 7 with (go_at_call 31; refine hno.mono ?_; rintro e W3 ⟨n', rfl, hn1, hn2, hn3, hn4, hn5, hF3⟩)
    obtain ⟨b', eb', kb', gn, es'⟩ := n'
    dsimp only at hn1 hn2 hn3 hn4 hn5
    subst hn1 hn2
    rw [← Hkr.out.2.2.2.1] at hn3
    have hw2 : b4 + 1 < W2.heap.size := by have := H2.out.2.2.1; omega
    obtain ⟨W4, hclr, r4, hF4⟩ := HC.out W3 hF3
    have hF23 : Fr (fun _ => False) w W3 := hF2.trans hF3 (fun _ _ h => h)
    have hb3 := (hF23.block b hbl (fun h => h)).trans HH.out.2.2.1
    have hb4' := (hF4.block b (by have := hF23.size; omega) hd.1).trans hb3
    have t3 : W3.cell? ⟨b, 3, none⟩ = some (.slice (some ⟨eb, 0, none⟩) L cap) := node_cell hb3 3
    have t4 : W4.cell? ⟨b, 3, none⟩ = some (.slice (some ⟨eb, 0, none⟩) L cap) := node_cell hb4' 3
    have tf := node_frozen hb4' 3
    clear hno d4 d3
    have hF34 : Fr (fun j => j = eb) w W4 := (hF23.mono (fun _ _ h => h.elim)).trans hF4 (fun _ _ h => h)
    have b2 : b < W4.heap.size := (Array.getElem?_eq_some_iff.1 hb4').1
    have H4 := Lib.hid (And.intro hb4' (And.intro r4 (And.intro hF4 (And.intro hF3 hF34))))
    clear hb3 hb4' r4 hF4
    go_upto_region 9 with (at_builtin; refine wpList_clear_run _ rfl _ 27 rfl _ rfl hclr ?_)
    obtain ⟨W5, hW5⟩ : ∃ W5, W5 = W4.setCell ⟨b, 3, none⟩ (.slice (some ⟨eb, 0, none⟩) H cap) := ⟨_, rfl⟩
    rw [← hW5]
    have n5 : W5.heap[b]? = some (nodeObj gen (L : Nat) (wr (bytes es : Nat)) (.slice (some ⟨eb, 0, none⟩) H cap) (.slice none 0 0)) := by rw [hW5]; exact node_set3 H4.out.1 _
    have hF45 : Fr (fun j => j = b) W4 W5 := by rw [hW5]; exact (Fr.refl (fun j => j = b) W4).setCell (.inl rfl) _
    have r5 := row_fr H4.out.2.1 hF45 (fun h => hd.1 h.symm)
    have hF35 : Fr (fun j => j = b ∨ j = eb) W2 W5 := ((H4.out.2.2.2.1.mono (fun _ _ h => h.elim)).trans H4.out.2.2.1 (fun _ _ h => .inr h)).trans hF45 (fun _ _ h => .inl h)
    have u4 : W5.cell? ⟨b, 4, none⟩ = some (.slice none 0 0) := node_cell n5 4
    have o5 := (hF35.block (b4 + 1) (by omega) (by omega)).trans H2.out.2.2.2.2.2
    have p0 : W5.cell? ⟨b4 + 1, 0, none⟩ = some (.string k) := by simp [World.cell?, o5]
    have p1 : W5.cell? ⟨b4 + 1, 1, none⟩ = some (.int .i64 v) := by simp [World.cell?, o5]
    obtain ⟨cap', kv', m1, m2, m3⟩ := hn3
    dsimp only at m1 m2 m3
    have hF3b : Fr (fun j => j = b ∨ j = eb) W3 W5 := (H4.out.2.2.1.mono (fun _ _ h => .inr h)).trans hF45 (fun _ _ h => .inl h)
    have hb'l : b' < W3.heap.size := (Array.getElem?_eq_some_iff.1 m1).1
    have m1' : W5.heap[b']? = some (nodeObj gn ((es.drop (H + 1)).length + Kids.sz none : Nat) (wr (bytes (es.drop (H + 1)) + Kids.by_ none : Nat)) (.slice (some ⟨eb', 0, none⟩) (es.drop (H + 1)).length cap') kv') := (hF3b.block b' hb'l (by omega)).trans m1
    have hcnt := count_in b gen (-1) (L : Nat) (bytes es : Nat) (.slice (some ⟨eb, 0, none⟩) H cap) (.slice none 0 0) k v (some b') ((es.drop (H + 1)).length + Kids.sz none : Nat) (bytes (es.drop (H + 1)) + Kids.by_ none : Nat) W5 (.inr rfl) n5 ⟨by omega, by omega⟩ (fun c h => by
      cases h
      exact ⟨⟨by omega, by rw [Hkr.out.2.2.2.1]; simp only [Kids.sz]; omega⟩, by omega, gn, _, _, m1'⟩) (fun h => by cases h)
    clear hclr t3 t4 tf hW5
    go_upto_region 13 with (go_at_call 36; refine hcnt.mono ?_; rintro e W6 ⟨rfl, n6, hF6⟩)
    clear u4 p0 p1
    have o6 := (hF6.block (b4 + 1) (by have := hF35.size; omega) (by omega)).trans o5
    have o64 := (hF6.block b4 (by have := hF35.size; omega) (by omega)).trans ((hF35.block b4 (by omega) (by omega)).trans H2.out.2.2.2.2.1)
    have p0 : W6.cell? ⟨b4 + 1, 0, none⟩ = some (.string k) := by simp [World.cell?, o6]
    have p1 : W6.cell? ⟨b4 + 1, 1, none⟩ = some (.int .i64 v) := by simp [World.cell?, o6]
    have p2 : W6.cell? ⟨b4, 0, none⟩ = some (.string ⟨#[]⟩) := by simp [World.cell?, o64]
    have p3 : W6.cell? ⟨b4, 1, none⟩ = some (.int .i64 0) := by simp [World.cell?, o64]
    have p4 : W6.frozen? ⟨b4, 0, none⟩ = false := by simp [World.frozen?, o64]
    have p5 : W6.frozen? ⟨b4, 1, none⟩ = false := by simp [World.frozen?, o64]
    go_wp2_with fail
    (try simp only [Exit.inBlock, Exit.then])
    refine bodyPost_ret (v := .tuple #[.agg #[.string k, .int .i64 v], .pointer (some ⟨b', 0, none⟩)]) ?_ rfl ?_
    · rw [results_cell_tmp rfl]
      go_simp
    · obtain ⟨hL, hH, _⟩ := HH.out
      obtain ⟨_, _, _, hd2, hbs⟩ := Hkr.out
      have hth : (es.take H).length = H := by rw [List.length_take]; omega
      have hF67 : Fr (fun j => j = b4) W6 ((W6.setCell ⟨b4, 0, none⟩ (.string k)).setCell ⟨b4, 1, none⟩ (.int .i64 v)) := ((Fr.refl (fun j => j = b4) W6).setCell (.inl rfl) _).setCell (.inl rfl) _
      have hF37 := (hF3b.trans hF6 (fun _ _ h => .inl h)).mono (S' := fun j => j = b ∨ j = eb ∨ j = b4) (fun _ _ h => by omega) |>.trans hF67 (fun _ _ h => .inr (.inr h))
      have hz3 := hF3.size
      refine ⟨⟨b', eb', kb', gn, es.drop (H + 1)⟩, rfl, rfl, rfl, NodeAt.fr ⟨cap', kv', m1, m2, m3⟩ hF37 (by dsimp only; omega) (by dsimp only; omega) (fun h => by cases h), ?_, hn5, ⟨cap, .slice none 0 0, ?_, ?_, rfl⟩, ?_⟩
      · dsimp only; omega
      · dsimp only
        rw [hth]
        have e1 : ((L : Nat) : Int) + -1 * (1 + (((es.drop (H + 1)).length + Kids.sz none : Nat) : Int)) = ((H + Kids.sz none : Nat) : Int) := by rw [hd2]; simp only [Kids.sz]; omega
        have e2 : ((bytes es : Nat) : Int) + -1 * ((k.size : Int) + ((bytes (es.drop (H + 1)) + Kids.by_ none : Nat) : Int)) = ((bytes (es.take H) + Kids.by_ none : Nat) : Int) := by rw [hbs]; simp only [Kids.by_]; omega
        rw [e1, e2] at n6
        exact (hF67.block b (Array.getElem?_eq_some_iff.1 n6).1 (by omega)).trans n6
      · dsimp only
        rw [hth]
        exact row_fr (row_fr r5 hF6 (fun h => hd.1 h.symm)) hF67 (by omega)
      · exact (((hF2.mono (fun _ _ h => h.elim)).trans hF35 (fun i hi h => h.elim .inl (fun h => .inr (.inl h)))).trans hF6 (fun _ _ h => .inl h)).trans hF67 (fun i hi h => by omega)
  | some l =>
    obtain ⟨hk1, hk2, hk3⟩ := Hk.out l rfl
    obtain ⟨hlc, hkr⟩ := Hkr.out.2.1 l rfl
    obtain ⟨hdb, hde⟩ := hd.2 rfl
    obtain ⟨M, hM⟩ : ∃ M, M = l.length := ⟨_, rfl⟩
    obtain rfl : kv = .slice (some ⟨kb, 0, none⟩) l.length kcap := Hkr.out.1
    rw [← hM] at hk1 hlc hkr d4
    have hM1 : H + 1 < M := by have := HH.out.1; omega
    have hM2 : M ≤ 4097 := by have := HH.out.1; omega
    have hkbl : kb < w.heap.size := (hkr.lt kb rfl).2
    have hkn := fun W a n c => kids_some W a n c
    have hno := nodeOf_in tb g eb ((H + 1) * 2) (cap - (H + 1)) kb (H + 1) (kcap - (H + 1)) (es.drop (H + 1)) (some (l.drop (H + 1))) W2 hg2 (by rw [Hkr.out.2.2.2.1]; omega) Hkr.out.2.2.1 (by rw [Hkr.out.2.2.2.1]; omega) (fun l' h => by
      cases h
      refine ⟨by rw [List.length_drop]; omega, by have := ksz_drop_le l (H + 1); omega, fun j c hc => ?_⟩
      rw [List.getElem?_drop] at hc
      obtain ⟨_, g', ev', kv', hcn⟩ := hk3 _ c hc
      refine ⟨?_, g', ev', kv', (hF2.block c.1 (Array.getElem?_eq_some_iff.1 hcn).1 (fun h => h)).trans hcn⟩
      rw [hF2.cell (p := ⟨kb, H + 1 + j, none⟩) hkbl (fun h => h)]
      have := row_add hkr (H + 1 + j) (.pointer (some ⟨c.1, 0, none⟩)) (by simp [ptrs, hc])
      rw [addr_add, Nat.zero_add] at this
      exact this)
    rw [Hkr.out.2.2.2.1] at hno
    have hkv2 : kval kb (H + 1) (kcap - (H + 1)) (some (l.drop (H + 1))) = .slice (some ⟨kb, H + 1, none⟩) (M - (H + 1)) (kcap - (H + 1)) := by rw [hM]; simp [kval]
    rw [hkv2] at hno
    have HM := Lib.hid (And.intro hM (And.intro hk1 (And.intro hk3 hkr)))
    clear hM hk1 hk3 hkr hkv2
    go_upto_region 7 with (go_at_call 31; refine hno.mono ?_; rintro e W3 ⟨n', rfl, hn1, hn2, hn3, hn4, hn5, hF3⟩)
    obtain ⟨b', eb', kb', gn, es'⟩ := n'
    dsimp only at hn1 hn2 hn3 hn4 hn5
    subst hn1 hn2
    rw [← Hkr.out.2.2.2.1] at hn3
    have hw2 : b4 + 1 < W2.heap.size := by have := H2.out.2.2.1; omega
    obtain ⟨W4, hclr, r4, hF4⟩ := HC.out W3 hF3
    have hF23 : Fr (fun _ => False) w W3 := hF2.trans hF3 (fun _ _ h => h)
    have hb3 : W3.heap[b]? = some (nodeObj gen (L + ksz l : Nat) (wr (bytes es + kby l : Nat)) (.slice (some ⟨eb, 0, none⟩) L cap) (.slice (some ⟨kb, 0, none⟩) M kcap)) := by rw [HM.out.1]; exact (hF23.block b hbl (fun h => h)).trans HH.out.2.2.1
    have hb4' := (hF4.block b (by have := hF23.size; omega) hd.1).trans hb3
    have t3 : W3.cell? ⟨b, 3, none⟩ = some (.slice (some ⟨eb, 0, none⟩) L cap) := node_cell hb3 3
    have t4 : W4.cell? ⟨b, 3, none⟩ = some (.slice (some ⟨eb, 0, none⟩) L cap) := node_cell hb4' 3
    have tf := node_frozen hb4' 3
    clear hno d4 d3
    have hF34 : Fr (fun j => j = eb) w W4 := (hF23.mono (fun _ _ h => h.elim)).trans hF4 (fun _ _ h => h)
    have b2 : b < W4.heap.size := (Array.getElem?_eq_some_iff.1 hb4').1
    have H4 := Lib.hid (And.intro hb4' (And.intro r4 (And.intro hF4 (And.intro hF3 hF34))))
    clear hb3 hb4' r4 hF4
    go_upto_region 9 with (at_builtin; refine wpList_clear_run _ rfl _ 27 rfl _ rfl hclr ?_)
    obtain ⟨W5, hW5⟩ : ∃ W5, W5 = W4.setCell ⟨b, 3, none⟩ (.slice (some ⟨eb, 0, none⟩) H cap) := ⟨_, rfl⟩
    rw [← hW5]
    have n5 : W5.heap[b]? = some (nodeObj gen (L + ksz l : Nat) (wr (bytes es + kby l : Nat)) (.slice (some ⟨eb, 0, none⟩) H cap) (.slice (some ⟨kb, 0, none⟩) M kcap)) := by rw [hW5]; exact node_set3 H4.out.1 _
    have hF45 : Fr (fun j => j = b) W4 W5 := by rw [hW5]; exact (Fr.refl (fun j => j = b) W4).setCell (.inl rfl) _
    have r5 := row_fr H4.out.2.1 hF45 (fun h => hd.1 h.symm)
    have hF05 : Fr (fun j => j = b ∨ j = eb) w W5 := (H4.out.2.2.2.2.mono (fun _ _ h => .inr h)).trans hF45 (fun _ _ h => .inl h)
    obtain ⟨W6, hclk, r6, hF56⟩ := clearK W5 0 kb M kcap (H + 1) _ (row_fr HM.out.2.2.2 hF05 (by omega)) hM1
    have n6 := (hF56.block b (Array.getElem?_eq_some_iff.1 n5).1 (fun h => hdb h)).trans n5
    have u5 : W5.cell? ⟨b, 4, none⟩ = some (.slice (some ⟨kb, 0, none⟩) M kcap) := node_cell n5 4
    have u6 : W6.cell? ⟨b, 4, none⟩ = some (.slice (some ⟨kb, 0, none⟩) M kcap) := node_cell n6 4
    have uf := node_frozen n6 4
    obtain ⟨W7, hW7⟩ : ∃ W7, W7 = W6.setCell ⟨b, 4, none⟩ (.slice (some ⟨kb, 0, none⟩) (H + 1) kcap) := ⟨_, rfl⟩
    have n7 : W7.heap[b]? = some (nodeObj gen (L + ksz l : Nat) (wr (bytes es + kby l : Nat)) (.slice (some ⟨eb, 0, none⟩) H cap) (.slice (some ⟨kb, 0, none⟩) (H + 1) kcap)) := by rw [hW7]; exact node_set4 n6 _
    have hF67 : Fr (fun j => j = b) W6 W7 := by rw [hW7]; exact (Fr.refl (fun j => j = b) W6).setCell (.inl rfl) _
    have r7 := row_fr (row_fr r5 hF56 (fun h => hde h)) hF67 (fun h => hd.1 h.symm)
    have k7 := row_fr r6 hF67 (fun h => hdb h.symm)
    have hF27 : Fr (fun j => j = b ∨ j = eb ∨ j = kb) W2 W7 := ((((H4.out.2.2.2.1.mono (fun _ _ h => h.elim)).trans H4.out.2.2.1 (fun _ _ h => .inr (.inl h))).trans hF45 (fun _ _ h => .inl h)).trans hF56 (fun _ _ h => .inr (.inr h))).trans hF67 (fun _ _ h => .inl h)
    have hF3b : Fr (fun j => j = b ∨ j = eb ∨ j = kb) W3 W7 := (((H4.out.2.2.1.mono (fun _ _ h => .inr (.inl h))).trans hF45 (fun _ _ h => .inl h)).trans hF56 (fun _ _ h => .inr (.inr h))).trans hF67 (fun _ _ h => .inl h)
    have o7 := (hF27.block (b4 + 1) (by omega) (by omega)).trans H2.out.2.2.2.2.2
    obtain ⟨cap', kv', m1, m2, m3⟩ := hn3
    dsimp only at m1 m2 m3
    have hb'l : b' < W3.heap.size := (Array.getElem?_eq_some_iff.1 m1).1
    have m1' : W7.heap[b']? = some (nodeObj gn ((es.drop (H + 1)).length + ksz (l.drop (H + 1)) : Nat) (wr (bytes (es.drop (H + 1)) + kby (l.drop (H + 1)) : Nat)) (.slice (some ⟨eb', 0, none⟩) (es.drop (H + 1)).length cap') kv') := (hF3b.block b' hb'l (by omega)).trans m1
    have hcnt := count_in b gen (-1) (L + ksz l : Nat) (bytes es + kby l : Nat) (.slice (some ⟨eb, 0, none⟩) H cap) (.slice (some ⟨kb, 0, none⟩) (H + 1) kcap) k v (some b') ((es.drop (H + 1)).length + ksz (l.drop (H + 1)) : Nat) (bytes (es.drop (H + 1)) + kby (l.drop (H + 1)) : Nat) W7 (.inr rfl) n7 ⟨by omega, by omega⟩ (fun c h => by
      cases h
      exact ⟨⟨by omega, by rw [Hkr.out.2.2.2.1]; have := ksz_drop_le l (H + 1); omega⟩, by omega, gn, _, _, m1'⟩) (fun h => by cases h)
    have H7 := Lib.hid (And.intro hW7 (And.intro r7 (And.intro k7 (And.intro o7 (And.intro m1 (And.intro m2 m3))))))
    clear hclr t3 t4 tf hW5 n6 r6 r5 hF56 hF67 hW7 o7 m1 m2 m3 m1' r7 k7
    go_upto_region 12 with (at_builtin; refine wpList_clear_run _ rfl _ 90 rfl _ rfl hclk ?_)
    rw [← H7.out.1]
    clear u5 u6 uf hclk
    have o7 := H7.out.2.2.2.1
    have p0 : W7.cell? ⟨b4 + 1, 0, none⟩ = some (.string k) := by simp [World.cell?, o7]
    have p1 : W7.cell? ⟨b4 + 1, 1, none⟩ = some (.int .i64 v) := by simp [World.cell?, o7]
    go_upto_region 13 with (go_at_call 36; refine hcnt.mono ?_; rintro e W8 ⟨rfl, n8, hF8⟩)
    clear p0 p1
    have o8 := (hF8.block (b4 + 1) (by have := hF27.size; omega) (by omega)).trans o7
    have o84 := (hF8.block b4 (by have := hF27.size; omega) (by omega)).trans ((hF27.block b4 (by omega) (by omega)).trans H2.out.2.2.2.2.1)
    have p0 : W8.cell? ⟨b4 + 1, 0, none⟩ = some (.string k) := by simp [World.cell?, o8]
    have p1 : W8.cell? ⟨b4 + 1, 1, none⟩ = some (.int .i64 v) := by simp [World.cell?, o8]
    have p2 : W8.cell? ⟨b4, 0, none⟩ = some (.string ⟨#[]⟩) := by simp [World.cell?, o84]
    have p3 : W8.cell? ⟨b4, 1, none⟩ = some (.int .i64 0) := by simp [World.cell?, o84]
    have p4 : W8.frozen? ⟨b4, 0, none⟩ = false := by simp [World.frozen?, o84]
    have p5 : W8.frozen? ⟨b4, 1, none⟩ = false := by simp [World.frozen?, o84]
    go_wp2_with fail
    (try simp only [Exit.inBlock, Exit.then])
    refine bodyPost_ret (v := .tuple #[.agg #[.string k, .int .i64 v], .pointer (some ⟨b', 0, none⟩)]) ?_ rfl ?_
    · rw [results_cell_tmp rfl]
      go_simp
    · obtain ⟨hL, hH, _⟩ := HH.out
      obtain ⟨_, _, _, hd2, hbs⟩ := Hkr.out
      obtain ⟨hM, hk1, _⟩ := HM.out
      obtain ⟨_, r7, k7, _, m1, m2, m3⟩ := H7.out
      have hth : (es.take H).length = H := by rw [List.length_take]; omega
      have hF89 : Fr (fun j => j = b4) W8 ((W8.setCell ⟨b4, 0, none⟩ (.string k)).setCell ⟨b4, 1, none⟩ (.int .i64 v)) := ((Fr.refl (fun j => j = b4) W8).setCell (.inl rfl) _).setCell (.inl rfl) _
      have hF39 := (hF3b.trans hF8 (fun _ _ h => .inl h)).mono (S' := fun j => j = b ∨ j = eb ∨ j = kb ∨ j = b4) (fun _ _ h => by omega) |>.trans hF89 (fun _ _ h => .inr (.inr (.inr h)))
      have hz3 := hF3.size
      have hs1 := ksz_split l (H + 1)
      have hs2 := kby_split l (H + 1)
      refine ⟨⟨b', eb', kb', gn, es.drop (H + 1)⟩, rfl, rfl, rfl, NodeAt.fr ⟨cap', kv', m1, m2, m3⟩ hF39 (by dsimp only; omega) (by dsimp only; omega) (fun h => by dsimp only; omega), ?_, hn5, ⟨cap, .slice (some ⟨kb, 0, none⟩) (H + 1) kcap, ?_, ?_, ?_⟩, ?_⟩
      · dsimp only; omega
      · dsimp only
        rw [hth]
        have e1 : ((L + ksz l : Nat) : Int) + -1 * (1 + (((es.drop (H + 1)).length + ksz (l.drop (H + 1)) : Nat) : Int)) = ((H + ksz (l.take (H + 1)) : Nat) : Int) := by rw [hd2]; omega
        have e2 : ((bytes es + kby l : Nat) : Int) + -1 * ((k.size : Int) + ((bytes (es.drop (H + 1)) + kby (l.drop (H + 1)) : Nat) : Int)) = ((bytes (es.take H) + kby (l.take (H + 1)) : Nat) : Int) := by rw [hbs]; omega
        rw [e1, e2] at n8
        exact (hF89.block b (Array.getElem?_eq_some_iff.1 n8).1 (by omega)).trans n8
      · dsimp only
        rw [hth]
        exact row_fr (row_fr r7 hF8 (fun h => hd.1 h.symm)) hF89 (by omega)
      · refine ⟨kcap, ?_, ?_⟩
        · simp [hM.symm]; omega
        · have hlt : ((l.take (H + 1)).map (·.1)).length = H + 1 := by simp; omega
          rw [hlt]
          have := row_fr (row_fr k7 hF8 (fun h => hdb h.symm)) hF89 (by omega)
          have hpt : ptrs ((l.take (H + 1)).map (·.1)) = (ptrs (l.map (·.1))).take (H + 1) := by simp [ptrs, List.map_take]
          rw [hpt]
          exact this
      · exact (((hF2.mono (fun _ _ h => h.elim)).trans hF27 (fun i hi h => by
          rcases h with h | h | h
          · exact .inl h
          · exact .inr (.inl h)
          · exact .inr (.inr ⟨rfl, h⟩))).trans hF8 (fun _ _ h => .inl h)).trans hF89 (fun i hi h => by omega)
end Go.Proofs.Ybulkbrzk.BT
