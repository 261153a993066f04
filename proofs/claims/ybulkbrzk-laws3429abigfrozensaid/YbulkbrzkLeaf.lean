/-
  insert at a leaf.
-/
import Derived.Test.YbulkbrzkFocus
namespace Go.Proofs.Ybulkbrzk.BT
open Go Go.RowKit
set_option linter.unusedVariables false

/-- what insert does -/
def InsPost (g N : Nat) (key : ByteArray) (v : Int) {h : Nat} (t : GT h) (w : World) (e : Ending) (w' : World) : Prop :=
  ∃ (t' : GT h) (ad : Bool) (gr : Int), e = .returned (.tuple #[.bool ad, .int .i64 gr]) ∧ t'.nd.b = t.nd.b ∧ t'.nd.gen = g ∧ t'.flat = ins key v t.flat ∧ Tree g N w' t' ∧ Grow (t.fp g) w w' (t'.fp g) ∧
    ((ad = true ∧ gr = key.size ∧ t'.flat.length = t.flat.length + 1 ∧ bytes t'.flat = bytes t.flat + key.size) ∨ (ad = false ∧ gr = 0 ∧ t'.flat.length = t.flat.length ∧ bytes t'.flat = bytes t.flat))

theorem one2 (k : ByteArray) (v : Int) : ∀ u ∈ [Value.string k, Value.int .i64 v], u.oneCell' = true := fun u hu => by
  simp at hu
  rcases hu with rfl | rfl <;> rfl

/-- the entries with one more -/
theorem ins_cells (es : List E) (i : Nat) (k : ByteArray) (v : Int) : (es.flatMap eCells).take (i * 2) ++ [.string k, .int .i64 v] ++ (es.flatMap eCells).drop (i * 2) = (es.take i ++ (k, v) :: es.drop i).flatMap eCells := by
  rw [← take_flat, ← drop_flat]
  simp [eCells]

theorem Grow.swapEb {g : Nat} {n : Nd} {kid : Bool} {w w' : World} {S : Nat → Prop} {eb' : Nat} {es' : List E} (R : List Nat) (hgen : n.gen = g) (hF : Fr S w w') (hs : ∀ i, i < w.heap.size → S i → i ∈ n.own g kid) (hl : ∀ x, x ∈ n.own g kid ++ R → x < w.heap.size) (hn : (n.own g kid ++ R).Nodup) (ha : eb' = n.eb ∨ (w.heap.size ≤ eb' ∧ eb' < w'.heap.size)) :
    Grow (n.own g kid ++ R) w w' (({ n with eb := eb', es := es' } : Nd).own g kid ++ R) := by
  have e1 : n.own g kid ++ R = [n.b] ++ [n.eb] ++ ((if kid then [n.kb] else []) ++ R) := by unfold Nd.own; rw [if_pos hgen]; simp
  have e2 : ({ n with eb := eb', es := es' } : Nd).own g kid ++ R = [n.b] ++ [eb'] ++ ((if kid then [n.kb] else []) ++ R) := by unfold Nd.own; rw [if_pos hgen]; simp
  rw [e2]
  rw [e1] at hl hn ⊢
  exact Grow.swap hF (fun i hi h => by have := hs i hi h; rw [← e1]; exact List.mem_append.2 (.inl this)) hl hn ha

set_option maxRecDepth 100000 in
set_option maxHeartbeats 4000000 in
theorem insert_leaf (tb g N : Nat) (t : GT 0) (key : ByteArray) (v : Int) (w : World) (hN : N ≤ w.heap.size) (ht : Tree g N w t) (hgen : t.nd.gen = g) (hnd : (t.fp g).Nodup) (hl : t.flat.length ≤ 4000) (hS : Sorted t.flat) :
    Calls Yba.prog 26 #[.pointer (some ⟨tb, 0, none⟩), t.ptr, .string key, .int .i64 v] w (InsPost g N key v t w) := by
  have hod := own_nd hgen (GT.fp_nd hnd)
  obtain ⟨cap, kv, hb, he, hk⟩ := ht.at
  have hkv : kv = .slice none 0 0 := hk
  subst hkv
  have hrep := fun i w' (h1 : Tree g N w' t) (hi : i < t.nd.es.length) => repl_tree g N i t v w' h1 hgen hnd (by omega) hi hS
  have hfl : t.flat = t.nd.es := rfl
  rw [hfl] at hb hl
  obtain ⟨b, eb, kb, gen, es⟩ := t
  have hgen' : gen = g := hgen
  subst hgen'
  change w.heap[b]? = some (nodeObj gen es.length (wr (bytes es)) (.slice (some ⟨eb, 0, none⟩) es.length cap) (.slice none 0 0)) at hb
  change es.length ≤ 4000 at hl
  change w.ownsRow 0 30 2 (.slice (some ⟨eb, 0, none⟩) es.length cap) es.length (es.flatMap eCells) at he
  have hbe : b ≠ eb := hod.1
  have hsr := search_in b gen eb cap es.length (wr (bytes es)) (.slice none 0 0) es key w hb he (by omega) hS
  have hbl := (Array.getElem?_eq_some_iff.1 hb).1
  have hebl := (he.lt eb rfl).2
  have H0 := Lib.hid (And.intro hb (And.intro he (And.intro hk (And.intro hS ht))))
  clear hfl hb he hk ht hgen
  show Calls Yba.prog 26 #[.pointer (some ⟨tb, 0, none⟩), .pointer (some ⟨b, 0, none⟩), .string key, .int .i64 v] w _
  go_enter Yba.func26, Yba.ntmps26
  go_upto_region 2 with (go_at_call 30; refine hsr.mono ?_; rintro e w1 ⟨i, f, q, rfl, rfl, hpl⟩)
  clear hsr
  obtain ⟨W1, hW1⟩ : ∃ W1, W1 = w.drewN q := ⟨_, rfl⟩
  rw [← hW1]
  have hF1 : Fr (fun _ => False) w W1 := by rw [hW1]; exact (Fr.refl _ _).drewN _
  clear hW1
  obtain ⟨hb0, he0, hk0, hS0, ht0⟩ := H0.out
  have b1 := (hF1.block b hbl (fun h => h)).trans hb0
  have ht1 := ht0.still hF1
  cases f with
  | true =>
    obtain ⟨hi, hkey⟩ := hpl.hit rfl
    have hrp := hrep i W1 ht1 hi
    clear hrep hb0 he0 hk0 hS0 ht0 ht1 b1
    go_wp2_with (go_at_call 38; refine hrp.mono ?_; rintro e w2 ⟨t', rfl, q1, q2, q3, q4, q5, q6, q7⟩)
    go_ret2
    refine ⟨t', false, 0, rfl, q1, q2, ?_, q6, ?_, .inr ⟨rfl, rfl, q4, q5⟩⟩
    · rw [q3, ← hkey]; rfl
    · exact (Grow.still hF1 (fun x hx => (H0.out.2.2.2.2.fp_lt x hx).2) hnd).trans q7
  | false =>
    have hk1 : W1.cell? ⟨b, 4, none⟩ = some (.slice none 0 0) := node_cell b1 4
    have hkn := kids_nil' W1
    have hil := hpl.le
    obtain ⟨bx, hbx⟩ : ∃ bx, bx = W1.heap.size := ⟨_, rfl⟩
    obtain ⟨W2, hW2⟩ : ∃ W2, W2 = W1.alloc (.cells #[.string key, .int .i64 v] 30) := ⟨_, rfl⟩
    have hF12 : Fr (fun _ => False) W1 W2 := by rw [hW2]; exact (Fr.refl _ _).alloc _
    have o2 : W2.heap[bx]? = some (.cells #[.string key, .int .i64 v] 30 (0, 0)) := by
      rw [hW2, hbx]
      show (W1.heap.push _)[W1.heap.size]? = _
      simp
    have hF02 : Fr (fun _ => False) w W2 := hF1.trans hF12 (fun _ _ h => h)
    have b2 := (hF02.block b hbl (fun h => h)).trans hb0
    obtain ⟨W3, hW3⟩ : ∃ W3, W3 = (W2.alloc (.cells #[.string key, .int .i64 v] 30)).drew := ⟨_, rfl⟩
    have hF23 : Fr (fun _ => False) W2 W3 := by rw [hW3]; exact ((Fr.refl _ _).alloc _).drew
    have hF03 : Fr (fun _ => False) w W3 := hF02.trans hF23 (fun _ _ h => h)
    have o3 : W3.heap[W2.heap.size]? = some (.cells #[.string key, .int .i64 v] 30 (0, 0)) := by
      rw [hW3]
      show (W2.heap.push _)[W2.heap.size]? = _
      simp
    have hins := insE_in eb es.length cap i W2.heap.size _ [.string key, .int .i64 v] W3 (row_fr he0 hF03 (fun h => h)) o3 rfl (one2 key v) (eCells_one es) (by have := hF02.size; omega) hil (by omega)
    rw [ins_cells] at hins
    have b3 := (hF03.block b hbl (fun h => h)).trans hb0
    have b3l := (Array.getElem?_eq_some_iff.1 b3).1
    have bxl := (Array.getElem?_eq_some_iff.1 o2).1
    have hox3 := (hF23.block bx bxl (fun h => h)).trans o2
    have x0 : W2.cell? ⟨bx, 0, none⟩ = some (.string key) := by simp [World.cell?, o2]
    have x1 : W2.cell? ⟨bx, 1, none⟩ = some (.int .i64 v) := by simp [World.cell?, o2]
    have c2 : W2.cell? ⟨b, 3, none⟩ = some (.slice (some ⟨eb, 0, none⟩) es.length cap) := node_cell b2 3
    have hbxn : bx ≠ eb ∧ bx ≠ b := by have := hF1.size; omega
    obtain ⟨L, hL⟩ : ∃ L, L = es.length := ⟨_, rfl⟩
    rw [← hL] at c2 hins b3
    subst hW3
    have b2l : b < W2.heap.size := (Array.getElem?_eq_some_iff.1 b2).1
    have H2 := Lib.hid (And.intro hW2 (And.intro hbx (And.intro hL (And.intro b3 (And.intro hox3 (And.intro hF23 hF02))))))
    have B3 := Lib.hid b3l
    clear hW2 b3l hrep hb0 he0 hk0 hS0 ht0 ht1 b1 hbx b2 o3 hox3 o2 hL hF23 hF12 hF02 b3
    go_upto_region 6 with fail
    rw [← H2.out.1, ← H2.out.2.1]
    go_cut [] (fun wx => ∃ g' cap', wx.heap[b]? = some (nodeObj gen L (wr (bytes es)) (.slice (some ⟨g', 0, none⟩) (L + 1) cap') (.slice none 0 0)) ∧ wx.ownsRow 0 30 2 (.slice (some ⟨g', 0, none⟩) (L + 1) cap') (L + 1) ((es.take i ++ (key, v) :: es.drop i).flatMap eCells) ∧ (g' = eb ∨ W2.heap.size ≤ g') ∧ wx.heap[bx]? = some (.cells #[.string key, .int .i64 v] 30 (0, 0)) ∧ Fr (fun j => j = eb ∨ j = b) W2 wx)
    case first =>
      go_region_with (go_at_call 39; refine hins.mono ?_; rintro e w'' ⟨g', cap', rfl, ho, hg', hF⟩; have b4 := (hF.block b B3.out (fun h => hbe h)).trans H2.out.2.2.2.1; have c4 : w''.cell? ⟨b, 3, none⟩ = some (.slice (some ⟨eb, 0, none⟩) L cap) := node_cell b4 3; have f4 := node_frozen b4 3)
      all_goals go_wp2_with fail
      all_goals go_meet
      all_goals
        case rel =>
          have hS : Fr (fun j => j = b) w'' (w''.setCell ⟨b, 3, none⟩ (.slice (some ⟨g', 0, none⟩) (L + 1) cap')) := (Fr.refl (fun j => j = b) w'').setCell (.inl rfl) _
          have hF23 := H2.out.2.2.2.2.2.1
          have ho4 := (hF.block bx (Nat.lt_of_lt_of_le bxl hF23.size) (fun h => hbxn.1 h)).trans H2.out.2.2.2.2.1
          have hsz := hF23.size
          have b3l := B3.out
          refine ⟨g', cap', node_set3 b4 _, row_fr ho hS (by omega), by omega, (hS.block bx (Array.getElem?_eq_some_iff.1 ho4).1 (by omega)).trans ho4, ?_⟩
          exact ((hF23.mono (fun _ _ h => h.elim)).trans hF (fun _ _ h => .inl h)).trans hS (fun _ _ h => .inr h)
    case rest =>
      obtain ⟨g', cap', n4, r4, hg', o4, hF24⟩ := hcut
      rename World => W4
      clear hins x0 x1 c2 hk1 hkn
      have p0 : W4.cell? ⟨bx, 0, none⟩ = some (.string key) := by simp [World.cell?, o4]
      have p1 : W4.cell? ⟨bx, 1, none⟩ = some (.int .i64 v) := by simp [World.cell?, o4]
      have b4l := (Array.getElem?_eq_some_iff.1 n4).1
      have g4l := (r4.lt g' rfl).2
      have hL : L = es.length := H2.out.2.2.1
      have hcnt := count_in b gen 1 L (bytes es) (.slice (some ⟨g', 0, none⟩) (L + 1) cap') (.slice none 0 0) key v none 0 0 W4 (.inl rfl) n4 ⟨by omega, by omega⟩ (fun c h => by cases h) (fun _ => ⟨rfl, rfl⟩)
      have H4 := Lib.hid (And.intro n4 (And.intro r4 (And.intro o4 hL)))
      have o4l := (Array.getElem?_eq_some_iff.1 o4).1
      clear n4 r4 o4 hL
      go_upto_region 8 with (go_at_call 36; refine hcnt.mono ?_; rintro e W5 ⟨rfl, n5, hF5⟩)
      have o5 := (hF5.block bx o4l (by omega)).trans H4.out.2.2.1
      clear p0 p1
      have p0 : W5.cell? ⟨bx, 0, none⟩ = some (.string key) := by simp [World.cell?, o5]
      have p1 : W5.cell? ⟨bx, 1, none⟩ = some (.int .i64 v) := by simp [World.cell?, o5]
      have heb := entryBytes_in key v W5
      go_wp2_with (go_at_call 37; refine heb.mono ?_; rintro e W6 ⟨rfl, rfl⟩)
      go_ret2
      obtain ⟨m1, m2, m3, hL⟩ := H4.out
      obtain ⟨hb0, he0, hk0, hS0, ht0⟩ := H0.out
      have hF02 := H2.out.2.2.2.2.2.2
      have hF56 := ebs_fr W5 key v
      have n6 := (hF56.block b (Array.getElem?_eq_some_iff.1 n5).1 (fun h => h)).trans n5
      have hlen : (es.take i ++ (key, v) :: es.drop i).length = L + 1 := by rw [List.length_append, List.length_take, List.length_cons, List.length_drop]; omega
      have hby : bytes (es.take i ++ (key, v) :: es.drop i) = bytes es + key.size := by
        have := bytes_append (es.take i) (es.drop i)
        rw [List.take_append_drop] at this
        rw [bytes_append]
        simp only [bytes]
        omega
      have hlie : N ≤ b ∧ N ≤ eb := by
        have h : Nd.lies gen N false ⟨b, eb, kb, gen, es⟩ := ht0.lies
        unfold Nd.lies at h
        rw [if_pos rfl] at h
        exact ⟨h.1, h.2.1⟩
      have hF06 : Fr (fun j => j = eb ∨ j = b) w (ebs W5 key v) := (((hF02.mono (fun _ _ h => h.elim)).trans hF24 (fun _ _ h => h)).trans hF5 (fun _ _ h => .inr h)).trans hF56 (fun _ _ h => h.elim)
      have hz2 := hF02.size
      have hT : Tree gen N (ebs W5 key v) (h := 0) (⟨b, g', kb, gen, es.take i ++ (key, v) :: es.drop i⟩ : Nd) := by
        refine ⟨⟨cap', .slice none 0 0, ?_, ?_, rfl⟩, lies_of rfl hlie.1 (by show N ≤ g'; omega) (fun h => by cases h)⟩
        · show (ebs W5 key v).heap[b]? = some (.cells #[_, .int .i64 ((es.take i ++ (key, v) :: es.drop i).length : Nat), .int .i64 (wr (bytes (es.take i ++ (key, v) :: es.drop i) : Nat)), .slice _ (es.take i ++ (key, v) :: es.drop i).length cap', _] 92 (0, 0))
          rw [hlen, hby]
          have h1 : ((L : Int) + 1 * (1 + 0)) = ((L + 1 : Nat) : Int) := by omega
          have h2 : ((bytes es : Int) + 1 * ((key.size : Int) + 0)) = ((bytes es + key.size : Nat) : Int) := by omega
          rw [h1, h2] at n6
          exact n6
        · show (ebs W5 key v).ownsRow 0 30 2 (.slice _ (es.take i ++ (key, v) :: es.drop i).length cap') (es.take i ++ (key, v) :: es.drop i).length _
          rw [hlen]
          have r5 := row_fr m2 hF5 (by omega)
          exact row_fr r5 hF56 (fun h => h)
      refine ⟨(⟨b, g', kb, gen, es.take i ++ (key, v) :: es.drop i⟩ : Nd), true, key.size, rfl, rfl, rfl, ?_, hT, ?_, .inl ⟨rfl, rfl, ?_, hby⟩⟩
      · show es.take i ++ (key, v) :: es.drop i = ins key v es
        conv => rhs; rw [← List.take_append_drop i es]
        rw [ins_low _ _ hpl.below]
        have := ins_high (k := key) (v := v) [] (es.drop i) hpl.above
        rw [List.nil_append] at this
        rw [this]
        rfl
      · have hg6 : g' = eb ∨ (w.heap.size ≤ g' ∧ g' < (ebs W5 key v).heap.size) := by
          have := hF5.size
          have := hF56.size
          omega
        have := Grow.swapEb (n := ⟨b, eb, kb, gen, es⟩) (kid := false) (es' := es.take i ++ (key, v) :: es.drop i) [] rfl hF06 (fun j hj h => by
          obtain ⟨q1, q2, _⟩ := mem_own (g := gen) (kid := false) (n := ⟨b, eb, kb, gen, es⟩) rfl
          rcases h with rfl | rfl
          · exact q2
          · exact q1) (fun x hx => (ht0.fp_lt x (by rw [List.append_nil] at hx; exact hx)).2) (by rw [List.append_nil]; exact hnd) hg6
        rw [List.append_nil, List.append_nil] at this
        exact this
      · show (es.take i ++ (key, v) :: es.drop i).length = es.length + 1
        rw [hlen, hL]
end Go.Proofs.Ybulkbrzk.BT
