/-
  raise: a new node over two.
-/
import Derived.Test.YbulkbrzkSplit
namespace Go.Proofs.Ybulkbrzk.BT
open Go Go.RowKit
set_option linter.unusedVariables false

theorem wr_add3 (a b c : Nat) : wrap64 (wrap64 (wr a + b) + wr c) = wr (a + b + c : Nat) := by
  rw [wr_add1, wr_add2]
  simp

set_option maxRecDepth 100000 in
set_option maxHeartbeats 4000000 in
theorem raise_in (tb g l r sl sr yl yr : Nat) (k : ByteArray) (v : Int) (w : World) (hg : w.cell? ⟨tb, 1, none⟩ = some (.int .u64 g)) (hsl : sl ≤ 8192) (hsr : sr ≤ 8192)
    (hln : ∃ g' ev' kv', w.heap[l]? = some (nodeObj g' sl (wr yl) ev' kv')) (hrn : ∃ g' ev' kv', w.heap[r]? = some (nodeObj g' sr (wr yr) ev' kv')) :
    Calls Yba.prog 25 #[.pointer (some ⟨tb, 0, none⟩), .pointer (some ⟨l, 0, none⟩), .agg #[.string k, .int .i64 v], .pointer (some ⟨r, 0, none⟩)] w fun e w' => ∃ n' : Nd, e = .returned (.pointer (some ⟨n'.b, 0, none⟩)) ∧ n'.gen = g ∧ n'.es = [(k, v)] ∧
      NodeAt w' n' (sl + 1 + sr : Nat) (wr (yl + k.size + yr : Nat)) (some [l, r]) ∧ (w.heap.size ≤ n'.b ∧ w.heap.size ≤ n'.eb ∧ w.heap.size ≤ n'.kb) ∧ (n'.b ≠ n'.eb ∧ n'.b ≠ n'.kb ∧ n'.eb ≠ n'.kb) ∧ Fr (fun _ => False) w w' := by
  obtain ⟨gl, evl, kvl, hln⟩ := hln
  obtain ⟨gr, evr, kvr, hrn⟩ := hrn
  have hll : l < w.heap.size := (Array.getElem?_eq_some_iff.1 hln).1
  have hrl : r < w.heap.size := (Array.getElem?_eq_some_iff.1 hrn).1
  obtain ⟨W0, hW0⟩ : ∃ W0, W0 = w.alloc (.cells #[.string k, .int .i64 v] 30) := ⟨_, rfl⟩
  obtain ⟨bx, hbx⟩ : ∃ bx, bx = w.heap.size := ⟨_, rfl⟩
  have hF0 : Fr (fun _ => False) w W0 := by rw [hW0]; exact (Fr.refl _ _).alloc _
  have ob : W0.heap[bx]? = some (.cells #[.string k, .int .i64 v] 30 (0, 0)) := by
    rw [hW0, hbx]
    show (w.heap.push _)[w.heap.size]? = _
    simp
  have hg0 : W0.cell? ⟨tb, 1, none⟩ = some (.int .u64 g) := (hF0.cell (p := ⟨tb, 1, none⟩) (World.block_lt_of_cell? _ _ hg) (fun h => h)).trans hg
  obtain ⟨W1, hW1⟩ : ∃ W1, W1 = (newW W0 g).drew := ⟨_, rfl⟩
  obtain ⟨ne, hne⟩ : ∃ ne, ne = W0.heap.size := ⟨_, rfl⟩
  have hF01 : Fr (fun _ => False) W0 W1 := by rw [hW1]; exact (new_fr W0 g).drew
  have hnew : Calls Yba.prog 22 #[.pointer (some ⟨tb, 0, none⟩)] W0 fun e w' => e = .returned (.pointer (some ⟨ne + 1, 0, none⟩)) ∧ w' = W1 := by rw [hW1, hne]; exact newNode_in tb g W0 hg0
  have n1 : W1.heap[ne + 1]? = some (nodeObj g 0 0 (.slice (some ⟨ne, 0, none⟩) 0 31) (.slice none 0 0)) := by rw [hW1, hne]; exact new_node W0 g
  have r1 : W1.ownsRow 0 30 2 (.slice (some ⟨ne, 0, none⟩) 0 31) 0 [] := by rw [hW1, hne]; exact e31_row W0 g
  have hF1 : Fr (fun _ => False) w W1 := hF0.trans hF01 (fun _ _ h => h)
  have hs1 : ne + 1 < W1.heap.size := (Array.getElem?_eq_some_iff.1 n1).1
  have hbxl : bx < W0.heap.size := (Array.getElem?_eq_some_iff.1 ob).1
  have ob1 := (hF01.block bx hbxl (fun h => h)).trans ob
  have x0 : W1.cell? ⟨bx, 0, none⟩ = some (.string k) := by simp [World.cell?, ob1]
  have x1 : W1.cell? ⟨bx, 1, none⟩ = some (.int .i64 v) := by simp [World.cell?, ob1]
  have c13 : W1.cell? ⟨ne + 1, 3, none⟩ = some (.slice (some ⟨ne, 0, none⟩) 0 31) := node_cell n1 3
  obtain ⟨W2, hW2⟩ : ∃ W2, W2 = (W1.alloc (.cells #[.string k, .int .i64 v] 30)).drew := ⟨_, rfl⟩
  have hF12 : Fr (fun _ => False) W1 W2 := by rw [hW2]; exact ((Fr.refl _ _).alloc _).drew
  have r2 := row_fr r1 hF12 (fun h => h)
  have o2 : W2.heap[W1.heap.size]? = some (.cells #[.string k, .int .i64 v] 30 (0, 0)) := by
    rw [hW2]
    show (W1.heap.push _)[W1.heap.size]? = _
    simp
  have a2 : W2.cell? ⟨ne + 1, 3, none⟩ = some (.slice (some ⟨ne, 0, none⟩) 0 31) := node_cell ((hF12.block (ne + 1) hs1 (fun h => h)).trans n1) 3
  obtain ⟨g3, cap3, W3, hap, hown3, hg3, hF23⟩ := appE W2 ne 0 31 [] r2 ⟨W1.heap.size, 0, none⟩ 1 1 [.string k, .int .i64 v] rfl (fun j u hu => by
    rw [addr_add, Nat.zero_add]
    simpa [World.cell?, o2] using hu) (fun u hu => by
      simp at hu
      rcases hu with rfl | rfl <;> rfl) (by omega)
  rw [Nat.zero_add] at hap hown3
  rw [List.nil_append] at hown3
  have n3 := (hF23.block (ne + 1) (by have := hF12.size; omega) (by omega)).trans ((hF12.block (ne + 1) hs1 (fun h => h)).trans n1)
  have c33 : W3.cell? ⟨ne + 1, 3, none⟩ = some (.slice (some ⟨ne, 0, none⟩) 0 31) := node_cell n3 3
  have f33 := node_frozen n3 3
  rw [hW2] at hap
  have HH := Lib.hid (And.intro hW0 (And.intro hbx (And.intro hne (And.intro hln (And.intro hrn (And.intro ob1 (And.intro n3 hown3)))))))
  have Hz := Lib.hid (And.intro hF0.size (And.intro hF01.size (And.intro hF12.size (And.intro hF23.size hg3))))
  have hF13 : Fr (fun j => j = ne) W1 W3 := (hF12.mono (fun _ _ h => h.elim)).trans hF23 (fun _ _ h => h)
  have hg3n : g3 ≠ ne + 1 := by have := hF12.size; omega
  have hg3w : w.heap.size ≤ g3 := by have := hF12.size; have := hF0.size; have := hF01.size; omega
  rw [hW0] at hnew
  clear hW1 hne hbx ob ob1 r1 r2 n3 hown3 hF12 hF23 hW2 o2 a2 hg3 hg0
  go_enter Yba.func25, Yba.ntmps25
  go_upto_region 2 with (go_at_call 22; refine hnew.mono ?_; rintro e w' ⟨rfl, h'⟩; replace h' := h'.symm; subst h')
  rw [← HH.out.2.1]
  go_cut [] (fun wx => wx.heap[ne + 1]? = some (nodeObj g 0 0 (.slice (some ⟨g3, 0, none⟩) 1 cap3) (.slice none 0 0)) ∧ wx.ownsRow 0 30 2 (.slice (some ⟨g3, 0, none⟩) 1 cap3) 1 [.string k, .int .i64 v] ∧ Fr (fun j => j = ne ∨ j = ne + 1) W1 wx)
  case first =>
    go_region_law (refine step_append_run rfl _ _ 27 27 rfl _ _ (by simp [Act.eval]) (by simp [Act.eval]) hap ?_)
    all_goals go_wp2_with fail
    all_goals go_meet
    all_goals
      case rel =>
        exact ⟨node_set3 HH.out.2.2.2.2.2.2.1 _, row_fr HH.out.2.2.2.2.2.2.2 ((Fr.refl (fun j => j = ne + 1) W3).setCell (.inl rfl) _) hg3n, (hF13.mono (fun _ _ h => .inl h)).setCell (.inl (.inr rfl)) _⟩
  case rest =>
    obtain ⟨n4, r4, hF4⟩ := hcut
    rename World => W4
    have b1 := (Array.getElem?_eq_some_iff.1 n4).1
    have b2 := (r4.lt g3 rfl).2
    have hF04 : Fr (fun _ => False) w W4 := hF1.trans hF4 (fun i hi h => by have := HH.out.2.2.1; have := Hz.out.1; omega)
    obtain ⟨W5, hW5⟩ : ∃ W5, W5 = W4.alloc (.cells (madeCells #[.pointer none] 32) 23) := ⟨_, rfl⟩
    obtain ⟨nk, hnk⟩ : ∃ nk, nk = W4.heap.size := ⟨_, rfl⟩
    have hm5 : (Instr.makeSlice 90 (.int .i64 0) (.int .i64 32)).run Yba.prog W4 = .ok (.slice (some ⟨nk, 0, none⟩) 0 32) W5 := by rw [hnk, hW5]; exact make90 W4
    have r5 : W5.ownsRow 0 23 1 (.slice (some ⟨nk, 0, none⟩) 0 32) 0 [] := by rw [hnk, hW5]; exact k32_row W4
    have hF45 : Fr (fun _ => False) W4 W5 := by rw [hW5]; exact (Fr.refl _ _).alloc _
    obtain ⟨W6, hW6⟩ : ∃ W6, W6 = W5.alloc (.cells #[.pointer (some ⟨l, 0, none⟩), .pointer (some ⟨r, 0, none⟩)] 23) := ⟨_, rfl⟩
    have o6 : W6.heap[W5.heap.size]? = some (.cells #[.pointer (some ⟨l, 0, none⟩), .pointer (some ⟨r, 0, none⟩)] 23 (0, 0)) := by
      rw [hW6]
      show (W5.heap.push _)[W5.heap.size]? = _
      simp
    have hF56 : Fr (fun _ => False) W5 W6 := by rw [hW6]; exact (Fr.refl _ _).alloc _
    have r6 := row_fr r5 hF56 (fun h => h)
    obtain ⟨k7, cap7, W7, hap7, hown7, hk7, hF67⟩ := appK W6 nk 0 32 [] r6 ⟨W5.heap.size, 0, none⟩ 2 2 (ptrs [l, r]) rfl (fun j u hu => by
      rw [addr_add, Nat.zero_add]
      simpa [World.cell?, o6, ptrs] using hu) (ptrs_one _) (by omega)
    rw [Nat.zero_add] at hap7 hown7
    rw [List.nil_append] at hown7
    have hnkl : nk < W5.heap.size := (r5.lt nk rfl).2
    have hF47 : Fr (fun _ => False) W4 W7 := (hF45.trans hF56 (fun _ _ h => h)).trans hF67 (fun i hi h => by omega)
    have n7 := (hF47.block (ne + 1) b1 (fun h => h)).trans n4
    have c4 : W7.cell? ⟨ne + 1, 4, none⟩ = some (.slice none 0 0) := node_cell n7 4
    have f4 := node_frozen n7 4
    obtain ⟨W8, hW8⟩ : ∃ W8, W8 = W7.setCell ⟨ne + 1, 4, none⟩ (.slice (some ⟨k7, 0, none⟩) 2 cap7) := ⟨_, rfl⟩
    have n8 : W8.heap[ne + 1]? = some (nodeObj g 0 0 (.slice (some ⟨g3, 0, none⟩) 1 cap3) (.slice (some ⟨k7, 0, none⟩) 2 cap7)) := by rw [hW8]; exact node_set4 n7 _
    have hF78 : Fr (fun j => j = ne + 1) W7 W8 := by rw [hW8]; exact (Fr.refl (fun j => j = ne + 1) W7).setCell (.inl rfl) _
    have hk7b : W4.heap.size ≤ k7 := by have := hF45.size; have := hF56.size; omega
    have hk7n : k7 ≠ ne + 1 := by omega
    have r8 := row_fr (row_fr r4 hF47 (fun h => h)) hF78 hg3n
    have o8 := row_fr hown7 hF78 hk7n
    have hF08 : Fr (fun _ => False) w W8 := (hF04.trans hF47 (fun _ _ h => h)).trans hF78 (fun i hi h => by have := HH.out.2.2.1; have := Hz.out.1; omega)
    have hbne : bx < ne := by have := HH.out.2.2.1; omega
    have hob8 := (hF78.block bx (by have := hF47.size; omega) (by omega)).trans ((hF47.block bx (by omega) (fun h => h)).trans ((hF4.block bx (by omega) (by omega)).trans HH.out.2.2.2.2.2.1))
    have hbz : bx < W1.heap.size ∧ bx < W8.heap.size := ⟨by omega, (Array.getElem?_eq_some_iff.1 hob8).1⟩
    have H8 := Lib.hid (And.intro hW8 (And.intro n8 (And.intro r8 (And.intro o8 (And.intro hk7b (And.intro hk7n (And.intro b1 (And.intro b2 n4))))))))
    rw [hW6] at hap7
    have hl8 := (hF08.block l hll (fun h => h)).trans HH.out.2.2.2.1
    have hr8 := (hF08.block r hrl (fun h => h)).trans HH.out.2.2.2.2.1
    have y1 : W8.cell? ⟨l, 1, none⟩ = some (.int .i64 sl) := node_cell hl8 1
    have y2 : W8.cell? ⟨r, 1, none⟩ = some (.int .i64 sr) := node_cell hr8 1
    have y3 : W8.cell? ⟨ne + 1, 1, none⟩ = some (.int .i64 0) := node_cell n8 1
    have yf := node_frozen n8 1
    have hlne : l < ne + 1 ∧ r < ne + 1 := by have := HH.out.2.2.1; have := Hz.out.1; omega
    clear hnk r5 hF45 o6 hF56 r6 hown7 hk7 hF67 hF47 n7 hF78 hk7b r8 o8 hW5 hW6 n8 r4 n4 hW8 hap x0 x1 c13 c33 f33 hnew hl8 hr8 n1
    go_upto_region 4 with (at_builtin; refine wpList_append_run _ rfl _ _ 90 90 rfl _ _ rfl rfl hap7 ?_)
    rw [← H8.out.1]
    clear hm5 hap7 c4 f4
    go_cut [] (fun wx => wx.heap[ne + 1]? = some (nodeObj g (sl + 1 + sr : Nat) 0 (.slice (some ⟨g3, 0, none⟩) 1 cap3) (.slice (some ⟨k7, 0, none⟩) 2 cap7)) ∧ Fr (fun b => b = ne + 1) W8 wx)
    case first =>
      go_region
      all_goals go_wp2_with fail
      all_goals go_meet
      all_goals
        case rel =>
          refine ⟨?_, ((Fr.refl (fun b => b = ne + 1) W8).setCell (.inl rfl) _).drew⟩
          refine (node_set1 H8.out.2.1 _).trans ?_
          congr 2
    case rest =>
      obtain ⟨n9, hF9⟩ := hcut
      rename World => W9
      have hF09 : Fr (fun _ => False) w W9 := hF08.trans hF9 (fun i hi h => by have := HH.out.2.2.1; have := Hz.out.1; omega)
      have hl9 := (hF09.block l hll (fun h => h)).trans HH.out.2.2.2.1
      have hr9 := (hF09.block r hrl (fun h => h)).trans HH.out.2.2.2.2.1
      clear y1 y2 y3 yf
      have y1 : W9.cell? ⟨l, 2, none⟩ = some (.int .i64 (wr yl)) := node_cell hl9 2
      have y2 : W9.cell? ⟨r, 2, none⟩ = some (.int .i64 (wr yr)) := node_cell hr9 2
      have y3 : W9.cell? ⟨ne + 1, 2, none⟩ = some (.int .i64 0) := node_cell n9 2
      have yf := node_frozen n9 2
      have ob9 : W9.heap[bx]? = some (.cells #[.string k, .int .i64 v] 30 (0, 0)) := (hF9.block bx hbz.2 (by omega)).trans hob8
      have x0 : W9.cell? ⟨bx, 0, none⟩ = some (.string k) := by simp [World.cell?, ob9]
      have x1 : W9.cell? ⟨bx, 1, none⟩ = some (.int .i64 v) := by simp [World.cell?, ob9]
      have heb := fun w => entryBytes_in k v w
      have hbl9 : bx < W9.heap.size ∧ l < W9.heap.size ∧ r < W9.heap.size ∧ ne + 1 < W9.heap.size := ⟨(Array.getElem?_eq_some_iff.1 ob9).1, (Array.getElem?_eq_some_iff.1 hl9).1, (Array.getElem?_eq_some_iff.1 hr9).1, (Array.getElem?_eq_some_iff.1 n9).1⟩
      obtain ⟨q1, q2, q3, q4⟩ := hbl9
      clear ob9 hl9 hr9
      go_upto_region 5 with fail
      obtain ⟨nb, hnb⟩ : ∃ nb, nb = ne + 1 := ⟨_, rfl⟩
      rw [← hnb]
      rw [← hnb] at y3 yf q4 n9
      have hlnb : l < nb ∧ r < nb ∧ bx < nb := by omega
      have Hnb := Lib.hid hnb
      clear hnb
      go_cut [] (fun wx => wx.heap[nb]? = some (nodeObj g (sl + 1 + sr : Nat) (wr (yl + k.size + yr : Nat)) (.slice (some ⟨g3, 0, none⟩) 1 cap3) (.slice (some ⟨k7, 0, none⟩) 2 cap7)) ∧ Fr (fun b => b = nb) W9 wx)
      case first =>
        have hnfe : wrap64 (wrap64 (wr yl + k.size) + wr yr) = wr (yl + k.size + yr : Nat) := wr_add3 _ _ _
        have nfin : (W9.setCell ⟨nb, 2, none⟩ (.int .i64 (wrap64 (wrap64 (wr yl + k.size) + wr yr)))).heap[nb]? = some (nodeObj g (sl + 1 + sr : Nat) (wr (yl + k.size + yr : Nat)) (.slice (some ⟨g3, 0, none⟩) 1 cap3) (.slice (some ⟨k7, 0, none⟩) 2 cap7)) := by
          rw [hnfe]
          exact node_set2 n9 _
        have nfin2 : (W9.setCell ⟨nb, 2, none⟩ (.int .i64 (IntKind.i64.wrap (IntKind.i64.wrap (wr yl + k.size) + wr yr)))).heap[nb]? = some (nodeObj g (sl + 1 + sr : Nat) (wr (yl + k.size + yr : Nat)) (.slice (some ⟨g3, 0, none⟩) 1 cap3) (.slice (some ⟨k7, 0, none⟩) 2 cap7)) := by
          rw [IntWalk.i64_left, IntWalk.i64_left]
          exact nfin
        have HN := Lib.hid (And.intro nfin nfin2)
        clear nfin2 nfin n9 hnfe
        go_region_with (go_at_call 37; refine (heb _).mono ?_; rintro e w'' ⟨rfl, rfl⟩; unfold ebs)
        all_goals go_wp2_with fail
        all_goals go_meet
        all_goals
          case rel =>
            refine ⟨?_, ((((Fr.refl (fun i => i = nb) W9).setCell (.inl rfl) _).alloc _).alloc _).drew⟩
            first
              | exact heap_alloc' (heap_alloc' HN.out.2)
              | exact heap_alloc' (heap_alloc' HN.out.1)
      case rest =>
        obtain ⟨n10, hF10⟩ := hcut
        rename World => W10
        clear y1 y2 y3 yf x0 x1 heb
        go_wp2_with fail
        go_ret
        have hnb := Hnb.out
        subst hnb
        obtain ⟨m1, m2, m3, m4, m5, m6, m7, m8, m9⟩ := H8.out
        have hz0 := Hz.out
        have hh := HH.out
        have hF8e : Fr (fun b => b = ne + 1) W8 W10 := hF9.trans hF10 (fun _ _ h => h)
        refine ⟨⟨ne + 1, g3, k7, g, [(k, v)]⟩, rfl, rfl, rfl, ⟨cap3, _, n10, row_fr m3 hF8e hg3n, cap7, rfl, row_fr m4 hF8e hk7n⟩, ?_, ?_, hF08.trans hF8e (fun i hi h => by omega)⟩
        · have := hF04.size; dsimp only; omega
        · dsimp only; omega
end Go.Proofs.Ybulkbrzk.BT
