/-
  own: the copy.
-/
import Derived.Test.YbulkbrzkOwn
namespace Go.Proofs.Ybulkbrzk.BT
open Go Go.RowKit
set_option linter.unusedVariables false

theorem kids_nil (W : World) : (binOp .neq 90 (.slice none 0 0) (.slice none 0 0)).run Yba.prog W = .ok (.bool false) W := by kernel_rfl
theorem kids_some (W : World) (a : Addr) (n c : Nat) : (binOp .neq 90 (.slice (some a) n c) (.slice none 0 0)).run Yba.prog W = .ok (.bool true) W := by kernel_rfl
theorem kids_nil' (W : World) : (binOp .eql 90 (.slice none 0 0) (.slice none 0 0)).run Yba.prog W = .ok (.bool true) W := by kernel_rfl
theorem kids_some' (W : World) (a : Addr) (n c : Nat) : (binOp .eql 90 (.slice (some a) n c) (.slice none 0 0)).run Yba.prog W = .ok (.bool false) W := by kernel_rfl

set_option maxRecDepth 100000 in
set_option maxHeartbeats 2000000 in
theorem own_copy (tb g : Nat) (n : Nd) (s y : Int) (ks : Option (List Nat)) (w : World) (hg : w.cell? ⟨tb, 1, none⟩ = some (.int .u64 g)) (hne : n.gen ≠ g) (hn : NodeAt w n s y ks) (hl : n.es.length ≤ 4096) (hkl : ∀ l, ks = some l → l.length ≤ 4097) :
    Calls Yba.prog 23 #[.pointer (some ⟨tb, 0, none⟩), .pointer (some ⟨n.b, 0, none⟩)] w fun e w' => ∃ n' : Nd, e = .returned (.pointer (some ⟨n'.b, 0, none⟩)) ∧ n'.gen = g ∧ n'.es = n.es ∧ NodeAt w' n' s y ks ∧
      (w.heap.size ≤ n'.b ∧ w.heap.size ≤ n'.eb ∧ w.heap.size ≤ n'.kb) ∧ (n'.b ≠ n'.eb ∧ n'.b ≠ n'.kb ∧ n'.eb ≠ n'.kb) ∧ Fr (fun _ => False) w w' := by
  obtain ⟨b, eb, kb, gen, es⟩ := n
  dsimp only at *
  obtain ⟨cap, kv, hb0, he0, hk0⟩ := hn
  dsimp only at hb0 he0 hk0
  have hb : w.heap[b]? = some (nodeObj gen s y (.slice (some ⟨eb, 0, none⟩) es.length cap) kv) := hb0
  have c0 : w.cell? ⟨b, 0, none⟩ = some (.int .u64 gen) := node_cell hb 0
  have hbl : b < w.heap.size := (Array.getElem?_eq_some_iff.1 hb).1
  have hne' : ¬ ((gen : Int) = (g : Int)) := by omega
  have Hn := Lib.hid (And.intro hb (And.intro he0 hk0))
  clear hb0 he0 hk0 hb
  go_enter Yba.func23, Yba.ntmps23
  go_wp2_with fail
  go_quiet (fail)
  obtain ⟨W0, hW0⟩ : ∃ W0, W0 = w.drewN nq := ⟨_, rfl⟩
  rw [← hW0]
  have hF0 : Fr (fun _ => False) w W0 := by rw [hW0]; exact (Fr.refl _ _).drewN _
  have hg0 : W0.cell? ⟨tb, 1, none⟩ = some (.int .u64 g) := by rw [hW0]; exact hg
  have z0 : w.heap.size ≤ W0.heap.size := hF0.size
  have Hn0 : Hid (W0.heap[b]? = some (nodeObj gen s y (.slice (some ⟨eb, 0, none⟩) es.length cap) kv) ∧ W0.ownsRow 0 30 2 (.slice (some ⟨eb, 0, none⟩) es.length cap) es.length (es.flatMap eCells) ∧ KidsAt W0 kb ks kv) := by
    rw [hW0]; exact Hn
  clear hW0 hg c0 hbl Hn
  go_upto_region 4 with (go_at_call 22; refine (newNode_in tb g W0 hg0).mono ?_; rintro e w' ⟨rfl, rfl⟩)
  obtain ⟨ne, hne1⟩ : ∃ ne, ne = W0.heap.size := ⟨_, rfl⟩
  rw [← hne1]
  obtain ⟨W1, hW1⟩ : ∃ W1, W1 = (newW W0 g).drew := ⟨_, rfl⟩
  rw [← hW1]
  have n1 : W1.heap[ne + 1]? = some (nodeObj g 0 0 (.slice (some ⟨ne, 0, none⟩) 0 31) (.slice none 0 0)) := by rw [hW1, hne1]; exact new_node W0 g
  have r1 : W1.ownsRow 0 30 2 (.slice (some ⟨ne, 0, none⟩) 0 31) 0 [] := by rw [hW1, hne1]; exact e31_row W0 g
  have hF1 : Fr (fun _ => False) W0 W1 := by rw [hW1]; exact (new_fr W0 g).drew
  have hbw : b < W0.heap.size := (Array.getElem?_eq_some_iff.1 Hn0.out.1).1
  have hnb := (hF1.block b hbw (fun h => h)).trans Hn0.out.1
  have p1 : W1.cell? ⟨b, 1, none⟩ = some (.int .i64 s) := node_cell hnb 1
  have p2 : W1.cell? ⟨b, 2, none⟩ = some (.int .i64 y) := node_cell hnb 2
  have q1 : W1.cell? ⟨ne + 1, 1, none⟩ = some (.int .i64 0) := node_cell n1 1
  have q2 : W1.cell? ⟨ne + 1, 2, none⟩ = some (.int .i64 0) := node_cell n1 2
  have g1 := node_frozen n1 1
  have g2 := node_frozen n1 2
  have hbn : b ≠ ne + 1 := by omega
  have hbn' : b ≠ ne := by omega
  have Hne := Lib.hid hne1
  clear hW1 hne1
  go_cut [] (fun wx => wx.heap[ne + 1]? = some (nodeObj g s y (.slice (some ⟨ne, 0, none⟩) 0 31) (.slice none 0 0)) ∧ Fr (fun j => j = ne + 1) W1 wx)
  case first =>
    go_region
    all_goals go_wp2_with fail
    all_goals go_meet
    all_goals
      case rel =>
        exact ⟨node_set2 (node_set1 n1 s) y, (((Fr.refl (fun j => j = ne + 1) W1).setCell (.inl rfl) _).setCell (.inl rfl) _).drew⟩
  case rest =>
    obtain ⟨n2, hF2⟩ := hcut
    rename World => W2
    have hF02 : Fr (fun _ => False) W0 W2 := hF1.trans hF2 (fun i hi h => by have := Hne.out; omega)
    have r2 := row_fr r1 hF2 (by omega)
    have hnb2 := (hF02.block b hbw (fun h => h)).trans Hn0.out.1
    have he2 := row_fr Hn0.out.2.1 hF02 (fun h => h)
    obtain ⟨i0, hi, hz0, hz1, hz2⟩ := info_parts info30
    obtain ⟨v', W3, hap, hown3, hgr3, hnil, hat⟩ := run_append_own_at (P := Yba.prog) W2.drew 0 27 27 30 i0 _ 2 24 Yba.underlying27 hi hz0 hz1 hz2 rfl (by decide) (.slice (some ⟨ne, 0, none⟩) 0 31) 0 [] r2 ⟨eb, 0, none⟩ es.length cap (es.flatMap eCells) (eCells_length es) (row_add he2) (eCells_one es) (by unfold maxLen; omega) (by omega) (Nat.zero_le _)
    rw [List.nil_append, Nat.zero_add] at hown3
    obtain ⟨g3, cap3, rfl⟩ : ∃ g3 cap3, v' = .slice (some ⟨g3, 0, none⟩) es.length cap3 := by
      rcases hown3.2 with ⟨h', _⟩ | ⟨g', c', cur, e', _⟩
      · have := hnil.1 h'
        simp at this
      · exact ⟨g', c', e'⟩
    have hg3 : g3 = ne ∨ g3 = W2.heap.size := by simp [Value.ownBlock] at hat; exact hat
    have hlt2 : ne + 1 < W2.heap.size := (Array.getElem?_eq_some_iff.1 n2).1
    have n3 := (hgr3.block (ne + 1) hlt2 (by simp [Value.ownBlock])).trans n2
    have c33 : W2.cell? ⟨ne + 1, 3, none⟩ = some (.slice (some ⟨ne, 0, none⟩) 0 31) := node_cell n2 3
    have cb3 : W2.cell? ⟨b, 3, none⟩ = some (.slice (some ⟨eb, 0, none⟩) es.length cap) := node_cell hnb2 3
    have d33 : W3.cell? ⟨ne + 1, 3, none⟩ = some (.slice (some ⟨ne, 0, none⟩) 0 31) := node_cell n3 3
    have df3 := node_frozen n3 3
    have hg3n : g3 ≠ ne + 1 := by omega
    have hF23 : Fr (fun j => j = ne) W2 W3 := (((Fr.refl (fun j => j = ne) W2).drew).grown hgr3 (fun r h => .inl (by simp [Value.ownBlock] at h; exact h.symm)))
    have HA := Lib.hid (And.intro hown3 (And.intro hF23 (And.intro n3 (And.intro hg3 n2))))
    clear hown3 hgr3 hnil hat hg3 n3 n2 hz0 hz1 hz2 hi r1 r2 he2 hnb2 p1 p2 q1 q2 g1 g2 hnb n1
    go_upto_region 5 with fail
    go_cut [] (fun wx => wx.heap[ne + 1]? = some (nodeObj g s y (.slice (some ⟨g3, 0, none⟩) es.length cap3) (.slice none 0 0)) ∧ wx.ownsRow 0 30 2 (.slice (some ⟨g3, 0, none⟩) es.length cap3) es.length (es.flatMap eCells) ∧ Fr (fun j => j = ne ∨ j = ne + 1) W2 wx)
    case first =>
      go_region_law (refine step_append_run rfl _ _ 27 27 rfl _ _ (by simp [Act.eval]) (by simp [Act.eval]) hap ?_)
      all_goals go_wp2_with fail
      all_goals go_meet
      all_goals
        case rel =>
          exact ⟨node_set3 HA.out.2.2.1 _, row_fr HA.out.1 ((Fr.refl (fun j => j = ne + 1) W3).setCell (.inl rfl) _) hg3n, (HA.out.2.1.mono (fun _ _ h => .inl h)).setCell (.inl (.inr rfl)) _⟩
    case rest =>
      obtain ⟨n4, r4, hF4⟩ := hcut
      rename World => W4
      have hF04 : Fr (fun _ => False) W0 W4 := hF02.trans hF4 (fun i hi h => by have := Hne.out; omega)
      have hnb4 := (hF04.block b hbw (fun h => h)).trans Hn0.out.1
      have cb4 : W4.cell? ⟨b, 4, none⟩ = some kv := node_cell hnb4 4
      have hk4 := Hn0.out.2.2.fr hF04 (fun _ h => h)
      have hFw : Fr (fun _ => False) w W4 := hF0.trans hF04 (fun _ _ h => h)
      clear hap c33 cb3 d33 df3 hbw hnb4
      cases ks with
      | none =>
        obtain rfl : kv = .slice none 0 0 := hk4
        have hkn := kids_nil W4
        go_wp2_with fail
        go_ret
        refine ⟨⟨ne + 1, g3, W4.heap.size, g, es⟩, rfl, rfl, rfl, ⟨cap3, _, n4, r4, rfl⟩, ?_, ?_, hFw⟩
        · have a := Hne.out
          have c := HA.out.2.2.2.1
          have d := hF02.size
          have e := hFw.size
          dsimp only
          omega
        · have b1 := (Array.getElem?_eq_some_iff.1 n4).1
          have b2 := (r4.lt g3 rfl).2
          dsimp only
          omega
      | some l =>
        obtain ⟨kcap, rfl, hkr⟩ := hk4
        have hkn := kids_some W4 ⟨kb, 0, none⟩ l.length kcap
        have hl2 := hkl l rfl
        obtain ⟨W5, hW5⟩ : ∃ W5, W5 = (W4.alloc (.cells (madeCells #[.pointer none] 32) 23)).drew := ⟨_, rfl⟩
        obtain ⟨nk, hnk⟩ : ∃ nk, nk = W4.heap.size := ⟨_, rfl⟩
        have hm5 : ∀ W : World, (Instr.makeSlice 90 (.int .i64 0) (.int .i64 32)).run Yba.prog W = .ok (.slice (some ⟨W.heap.size, 0, none⟩) 0 32) (W.alloc (.cells (madeCells #[.pointer none] 32) 23)) := make90
        have hF45 : Fr (fun _ => False) W4 W5 := by rw [hW5]; exact ((Fr.refl _ _).alloc _).drew
        have r5 : W5.ownsRow 0 23 1 (.slice (some ⟨nk, 0, none⟩) 0 32) 0 [] := by
          rw [hW5, hnk]
          refine ⟨rfl, .inr ⟨W4.heap.size, 32, madeCells #[.pointer none] 32, rfl, Nat.zero_le _, ?_, by omega, by unfold maxLen; omega, by simp [madeCells], by simp⟩⟩
          show (W4.heap.push _)[W4.heap.size]? = _
          simp
        have hkr5 := row_fr hkr hF45 (fun h => h)
        obtain ⟨i1, hi1, hy0, hy1, hy2⟩ := info_parts info23
        obtain ⟨v5, W6, hap6, hown6, hgr6, hnil6, hat6⟩ := run_append_own_at (P := Yba.prog) W5 0 90 90 23 i1 _ 1 8 Yba.underlying90 hi1 hy0 hy1 hy2 rfl (by decide) (.slice (some ⟨nk, 0, none⟩) 0 32) 0 [] r5 ⟨kb, 0, none⟩ l.length kcap (ptrs l) (by simp [ptrs]) (row_add hkr5) (ptrs_one l) (by unfold maxLen; omega) (by omega) (Nat.zero_le _)
        rw [List.nil_append, Nat.zero_add] at hown6
        obtain ⟨k6, cap6, rfl⟩ : ∃ k6 cap6, v5 = .slice (some ⟨k6, 0, none⟩) l.length cap6 := by
          rcases hown6.2 with ⟨h', _⟩ | ⟨g', c', cur, e', _⟩
          · have := hnil6.1 h'
            simp at this
          · exact ⟨g', c', e'⟩
        have hk6 : k6 = nk ∨ k6 = W5.heap.size := by simp [Value.ownBlock] at hat6; exact hat6
        have b1 := (Array.getElem?_eq_some_iff.1 n4).1
        have b2 := (r4.lt g3 rfl).2
        have hF56 : Fr (fun j => j = nk) W5 W6 := (Fr.refl (fun j => j = nk) W5).grown hgr6 (fun r h => .inl (by simp [Value.ownBlock] at h; exact h.symm))
        have hF46 : Fr (fun _ => False) W4 W6 := hF45.trans hF56 (fun i hi h => by omega)
        have n6 := (hF46.block (ne + 1) b1 (fun h => h)).trans n4
        have r6 := row_fr r4 hF46 (fun h => h)
        have c4 : W6.cell? ⟨ne + 1, 4, none⟩ = some (.slice none 0 0) := node_cell n6 4
        have f4 := node_frozen n6 4
        have hcb5 : ∀ o, (W4.alloc o).cell? ⟨b, 4, none⟩ = some (.slice (some ⟨kb, 0, none⟩) l.length kcap) := fun o => (World.cell?_alloc_lt _ _ _ (World.block_lt_of_cell? _ _ cb4)).trans cb4
        have HK := Lib.hid (And.intro n6 (And.intro r6 (And.intro hown6 (And.intro hF46 (And.intro hk6 (And.intro b1 (And.intro b2 (And.intro hF45.size hnk))))))))
        have hap7 : (Builtin.append_ #[90, 90] 90 #[.slice (some ⟨W4.heap.size, 0, none⟩) 0 32, .slice (some ⟨kb, 0, none⟩) l.length kcap]).run Yba.prog (W4.alloc (.cells (madeCells #[.pointer none] 32) 23)).drew = .ok (.slice (some ⟨k6, 0, none⟩) l.length cap6) W6 := by rw [← hW5, ← hnk]; exact hap6
        clear n6 r6 hown6 hF46 hk6 hnk hF56 hgr6 hnil6 hat6 hkr5 r5 hkr r4 n4 hi1 hy0 hy1 hy2 hap6 hF45 hW5
        go_upto_region 7 with fail
        go_region_law (refine step_append_run rfl _ _ 90 90 rfl _ _ (by simp [Act.eval]) (by simp [Act.eval]) hap7 ?_)
        all_goals go_wp2_with fail
        all_goals go_ret
        all_goals
          obtain ⟨m1, m2, m3, m4, m5, m6, m7, m8, m9⟩ := HK.out
          have hS : Fr (fun j => j = ne + 1) W6 (W6.setCell ⟨ne + 1, 4, none⟩ (.slice (some ⟨k6, 0, none⟩) l.length cap6)) := (Fr.refl (fun j => j = ne + 1) W6).setCell (.inl rfl) _
          have a := Hne.out
          have c := HA.out.2.2.2.1
          have d := hF02.size
          have e := hFw.size
          refine ⟨⟨ne + 1, g3, k6, g, es⟩, rfl, rfl, rfl, ⟨cap3, _, node_set4 m1 _, row_fr m2 hS (by omega), cap6, rfl, row_fr m3 hS (by omega)⟩, ?_, ?_, ?_⟩
          · dsimp only; omega
          · dsimp only; omega
          · exact (hFw.trans m4 (fun _ _ h => h)).setCell (.inr (by show w.heap.size ≤ ne + 1; omega)) _
end Go.Proofs.Ybulkbrzk.BT
