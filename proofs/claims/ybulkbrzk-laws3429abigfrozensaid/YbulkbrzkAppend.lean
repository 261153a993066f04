/-
  append: a node takes in another of its height; height.
-/
import Derived.Test.YbulkbrzkSplit
namespace Go.Proofs.Ybulkbrzk.BT
open Go Go.RowKit
set_option linter.unusedVariables false

set_option maxRecDepth 100000 in
set_option maxHeartbeats 4000000 in
theorem append_in (n m : Nd) (ks ms : Option (List Nat)) (s y s2 y2 : Nat) (k : ByteArray) (v : Int) (w : World) (hn : NodeAt w n s (wr y) ks) (hm : NodeAt w m s2 (wr y2) ms)
    (hl : n.es.length ≤ 4096) (hl2 : m.es.length ≤ 4096) (hs : s ≤ 8192) (hs2 : s2 ≤ 8192) (hkm : ks.isSome = ms.isSome) (hkl : ∀ l, ks = some l → l.length ≤ 4097) (hml : ∀ l, ms = some l → l.length ≤ 4097)
    (hd : n.b ≠ n.eb ∧ (ks.isSome = true → n.b ≠ n.kb ∧ n.eb ≠ n.kb)) (hdm : m.b ≠ n.b ∧ m.b ≠ n.eb ∧ m.eb ≠ n.b ∧ m.eb ≠ n.eb ∧ (ks.isSome = true → m.b ≠ n.kb ∧ m.eb ≠ n.kb ∧ m.kb ≠ n.b ∧ m.kb ≠ n.eb ∧ m.kb ≠ n.kb)) :
    Calls Yba.prog 69 #[.pointer (some ⟨n.b, 0, none⟩), .agg #[.string k, .int .i64 v], .pointer (some ⟨m.b, 0, none⟩)] w fun e w' => ∃ n' : Nd, e = .returned (.tuple #[]) ∧ n'.b = n.b ∧ n'.gen = n.gen ∧ n'.es = n.es ++ (k, v) :: m.es ∧
      NodeAt w' n' (s + (1 + s2) : Nat) (wr (y + (k.size + y2) : Nat)) (ks.bind fun l => ms.map fun l2 => l ++ l2) ∧ ((n'.eb = n.eb ∨ w.heap.size ≤ n'.eb) ∧ (n'.kb = n.kb ∨ w.heap.size ≤ n'.kb)) ∧ (n'.b ≠ n'.eb ∧ (ks.isSome = true → n'.b ≠ n'.kb ∧ n'.eb ≠ n'.kb)) ∧
      Fr (fun j => j = n.b ∨ j = n.eb ∨ (ks.isSome = true ∧ j = n.kb)) w w' := by
  obtain ⟨b, eb, kb, gen, es⟩ := n
  obtain ⟨mb, meb, mkb, mgen, mes⟩ := m
  dsimp only at *
  obtain ⟨cap, kv, hb0, he0, hk0⟩ := hn
  obtain ⟨mcap, mkv, mb0, me0, mk0⟩ := hm
  dsimp only at hb0 he0 hk0 mb0 me0 mk0
  have hb : w.heap[b]? = some (nodeObj gen s (wr y) (.slice (some ⟨eb, 0, none⟩) es.length cap) kv) := hb0
  have hmb : w.heap[mb]? = some (nodeObj mgen s2 (wr y2) (.slice (some ⟨meb, 0, none⟩) mes.length mcap) mkv) := mb0
  have hbl : b < w.heap.size := (Array.getElem?_eq_some_iff.1 hb).1
  have hmbl : mb < w.heap.size := (Array.getElem?_eq_some_iff.1 hmb).1
  have hebl := (he0.lt eb rfl).2
  have hmebl := (me0.lt meb rfl).2
  -- the box, then the slice of one
  obtain ⟨W0, hW0⟩ : ∃ W0, W0 = w.alloc (.cells #[.string k, .int .i64 v] 30) := ⟨_, rfl⟩
  obtain ⟨bx, hbx⟩ : ∃ bx, bx = w.heap.size := ⟨_, rfl⟩
  have hF0 : Fr (fun _ => False) w W0 := by rw [hW0]; exact (Fr.refl _ _).alloc _
  have ob : W0.heap[bx]? = some (.cells #[.string k, .int .i64 v] 30 (0, 0)) := by
    rw [hW0, hbx]
    show (w.heap.push _)[w.heap.size]? = _
    simp
  have hbxl : bx < W0.heap.size := (Array.getElem?_eq_some_iff.1 ob).1
  obtain ⟨W1, hW1⟩ : ∃ W1, W1 = (W0.alloc (.cells #[.string k, .int .i64 v] 30)).drew := ⟨_, rfl⟩
  have hF01 : Fr (fun _ => False) W0 W1 := by rw [hW1]; exact ((Fr.refl _ _).alloc _).drew
  have hF1 : Fr (fun _ => False) w W1 := hF0.trans hF01 (fun _ _ h => h)
  have o1 : W1.heap[W0.heap.size]? = some (.cells #[.string k, .int .i64 v] 30 (0, 0)) := by
    rw [hW1]
    show (W0.heap.push _)[W0.heap.size]? = _
    simp
  obtain ⟨g2, cap2, W2, hap1, hown2, hg2, hF12⟩ := appE W1 eb es.length cap _ (row_fr he0 hF1 (fun h => h)) ⟨W0.heap.size, 0, none⟩ 1 1 [.string k, .int .i64 v] rfl (fun j u hu => by
    rw [addr_add, Nat.zero_add]
    simpa [World.cell?, o1] using hu) (fun u hu => by
      simp at hu
      rcases hu with rfl | rfl <;> rfl) (by omega)
  have hF02 : Fr (fun j => j = eb) w W2 := (hF1.mono (fun _ _ h => h.elim)).trans hF12 (fun _ _ h => h)
  have hg2' : g2 = eb ∨ w.heap.size ≤ g2 := by have := hF1.size; omega
  obtain ⟨g3, cap3, W3, hap2, hown3, hg3, hF23⟩ := appE W2 g2 (es.length + 1) cap2 _ hown2 ⟨meb, 0, none⟩ mes.length mcap (mes.flatMap eCells) (eCells_length mes) (row_add (row_fr me0 hF02 (by omega))) (eCells_one mes) (by omega)
  have hg3' : g3 = eb ∨ w.heap.size ≤ g3 := by have := hF02.size; omega
  have hF03 : Fr (fun j => j = eb) w W3 := hF02.trans hF23 (fun i hi h => by omega)
  have hb2 := (hF02.block b hbl (by omega)).trans hb
  have hb3 := (hF03.block b hbl (by omega)).trans hb
  have hm2 := (hF02.block mb hmbl (by omega)).trans hmb
  have hb00 := (hF0.block b hbl (fun h => h)).trans hb
  have hm00 := (hF0.block mb hmbl (fun h => h)).trans hmb
  have x0 : W0.cell? ⟨bx, 0, none⟩ = some (.string k) := by simp [World.cell?, ob]
  have x1 : W0.cell? ⟨bx, 1, none⟩ = some (.int .i64 v) := by simp [World.cell?, ob]
  have a0 : W0.cell? ⟨b, 3, none⟩ = some (.slice (some ⟨eb, 0, none⟩) es.length cap) := node_cell hb00 3
  have a2 : W2.cell? ⟨b, 3, none⟩ = some (.slice (some ⟨eb, 0, none⟩) es.length cap) := node_cell hb2 3
  have a3 : W3.cell? ⟨b, 3, none⟩ = some (.slice (some ⟨eb, 0, none⟩) es.length cap) := node_cell hb3 3
  have af := node_frozen hb3 3
  have m0 : W0.cell? ⟨mb, 3, none⟩ = some (.slice (some ⟨meb, 0, none⟩) mes.length mcap) := node_cell hm00 3
  have m2 : W2.cell? ⟨mb, 3, none⟩ = some (.slice (some ⟨meb, 0, none⟩) mes.length mcap) := node_cell hm2 3
  have hob3 := (hF23.block bx (by have := hF01.size; have := hF12.size; omega) (by have := hF01.size; omega)).trans ((hF12.block bx (by have := hF01.size; omega) (by omega)).trans ((hF01.block bx hbxl (fun h => h)).trans ob))
  have HR : Hid (W3.heap[b]? = some (nodeObj gen s (wr y) (.slice (some ⟨eb, 0, none⟩) es.length cap) kv) ∧ W3.ownsRow 0 30 2 (.slice (some ⟨g3, 0, none⟩) (es.length + 1 + mes.length) cap3) (es.length + 1 + mes.length) ((es ++ (k, v) :: mes).flatMap eCells)) := Lib.hid ⟨hb3, by
    have e1 : (es ++ (k, v) :: mes).flatMap eCells = es.flatMap eCells ++ [.string k, .int .i64 v] ++ mes.flatMap eCells := by simp [eCells]
    rw [e1]
    exact hown3⟩
  rw [hW1] at hap1
  obtain ⟨n1, hn1⟩ : ∃ n1, n1 = es.length := ⟨_, rfl⟩
  obtain ⟨m1, hm1⟩ : ∃ m1, m1 = mes.length := ⟨_, rfl⟩
  rw [← hn1] at a0 a2 a3 hap1 hap2 HR
  rw [← hm1] at m0 m2 hap2 HR
  have HH := Lib.hid (And.intro hW0 (And.intro hbx (And.intro hn1 (And.intro hm1 (And.intro hb (And.intro hmb (And.intro hk0 (And.intro mk0 hob3))))))))
  have hbx3 : bx < W3.heap.size ∧ b < bx ∧ mb < bx ∧ eb < bx ∧ meb < bx := by
    have := (Array.getElem?_eq_some_iff.1 hob3).1
    omega
  have z1 : b < W0.heap.size := by omega
  have z2 : mb < W0.heap.size := by omega
  clear hb0 mb0 hb hmb he0 me0 hk0 mk0 hW1 hn1 hm1 hbx ob o1 hown2 hown3 hF12 hF23 hb2 hb3 hm2 hb00 hm00 hob3 hW0
  go_enter Yba.func69, Yba.ntmps69
  go_upto_region 1 with fail
  rw [← HH.out.1, ← HH.out.2.1]
  go_cut [] (fun wx => wx.heap[b]? = some (nodeObj gen s (wr y) (.slice (some ⟨g3, 0, none⟩) (n1 + 1 + m1) cap3) kv) ∧ wx.ownsRow 0 30 2 (.slice (some ⟨g3, 0, none⟩) (n1 + 1 + m1) cap3) (n1 + 1 + m1) ((es ++ (k, v) :: mes).flatMap eCells) ∧ wx.heap[bx]? = some (.cells #[.string k, .int .i64 v] 30 (0, 0)) ∧ Fr (fun j => j = eb ∨ j = b) w wx)
  case first =>
    go_region_law (first
      | refine step_append_run rfl _ _ 27 27 rfl _ _ (by simp [Act.eval]) (by simp [Act.eval]) hap1 ?_
      | refine step_append_run rfl _ _ 27 27 rfl _ _ (by simp [Act.eval]) (by simp [Act.eval]) hap2 ?_)
    all_goals go_wp2_with fail
    all_goals go_meet
    all_goals
      case rel =>
        have hS : Fr (fun j => j = b) W3 (W3.setCell ⟨b, 3, none⟩ (.slice (some ⟨g3, 0, none⟩) (n1 + 1 + m1) cap3)) := (Fr.refl (fun j => j = b) W3).setCell (.inl rfl) _
        exact ⟨node_set3 HR.out.1 _, row_fr HR.out.2 hS (by omega), (hS.block bx hbx3.1 (by omega)).trans HH.out.2.2.2.2.2.2.2.2, (hF03.mono (fun _ _ h => .inl h)).trans hS (fun _ _ h => .inr h)⟩
  case rest =>
    obtain ⟨n4, r4, o4, hF4⟩ := hcut
    rename World => W4
    clear hap1 hap2 x0 x1 a0 a2 a3 af m0 m2
    have hlen : (es ++ (k, v) :: mes).length = n1 + 1 + m1 := by have := HH.out; simp; omega
    have y4 : W4.cell? ⟨b, 4, none⟩ = some kv := node_cell n4 4
    have p0 : W4.cell? ⟨bx, 0, none⟩ = some (.string k) := by simp [World.cell?, o4]
    have p1 : W4.cell? ⟨bx, 1, none⟩ = some (.int .i64 v) := by simp [World.cell?, o4]
    have hm4 := (hF4.block mb hmbl (by omega)).trans HH.out.2.2.2.2.2.1
    have hg3z : g3 < W4.heap.size := (r4.lt g3 rfl).2
    cases ks with
    | none =>
      cases ms with
      | some l => simp at hkm
      | none =>
        obtain rfl : kv = .slice none 0 0 := HH.out.2.2.2.2.2.2.1
        have hkn := kids_nil W4
        have hcnt := count_in b gen 1 s y (.slice (some ⟨g3, 0, none⟩) (n1 + 1 + m1) cap3) (.slice none 0 0) k v (some mb) s2 y2 W4 (.inl rfl) n4 ⟨by omega, by omega⟩ (fun c h => by
          cases h
          exact ⟨⟨by omega, by omega⟩, by omega, mgen, _, _, hm4⟩) (fun h => by cases h)
        have HP := Lib.hid (And.intro n4 (And.intro r4 (And.intro hm4 o4)))
        clear n4 r4 hm4 o4
        go_wp2_with (go_at_call 36; refine hcnt.mono ?_; rintro e W5 ⟨rfl, n5, hF5⟩)
        go_end0
        refine ⟨⟨b, g3, W4.heap.size, gen, es ++ (k, v) :: mes⟩, rfl, rfl, rfl, rfl, ⟨cap3, .slice none 0 0, ?_, ?_, rfl⟩, ⟨by dsimp only; omega, .inr hF4.size⟩, ⟨by dsimp only; omega, fun h => by cases h⟩, ?_⟩
        · dsimp only
          rw [hlen]
          have h1 : ((s : Int) + 1 * (1 + (s2 : Int))) = ((s + (1 + s2) : Nat) : Int) := by omega
          have h2 : ((y : Int) + 1 * ((k.size : Int) + (y2 : Int))) = ((y + (k.size + y2) : Nat) : Int) := by omega
          rw [h1, h2] at n5
          exact n5
        · dsimp only
          rw [hlen]
          exact row_fr HP.out.2.1 hF5 (by omega)
        · exact (hF4.mono (fun _ _ h => by omega)).trans hF5 (fun _ _ h => .inl h)
    | some l =>
      cases ms with
      | none => simp at hkm
      | some l2 =>
        obtain ⟨kcap, rfl, hkr⟩ := HH.out.2.2.2.2.2.2.1
        obtain ⟨mkcap, rfl, mkr⟩ := HH.out.2.2.2.2.2.2.2.1
        obtain ⟨hd1, hd2⟩ := hd.2 rfl
        obtain ⟨hdm1, hdm2, hdm3, hdm4, hdm5⟩ := hdm.2.2.2.2 rfl
        have hl4 := hkl l rfl
        have hl5 := hml l2 rfl
        have hkn := fun W a n c => kids_some W a n c
        have hkbl := (hkr.lt kb rfl).2
        have mkr4 := row_fr mkr hF4 (by omega)
        have hkr4 := row_fr hkr hF4 (by omega)
        obtain ⟨g5, cap5, W5, hap5, hown5, hg5, hF45⟩ := appK W4.drew kb l.length kcap (ptrs l) hkr4 ⟨mkb, 0, none⟩ l2.length mkcap (ptrs l2) (by simp [ptrs]) (row_add (w := W4.drew) mkr4) (ptrs_one _) (by omega)
        have hF45' : Fr (fun j => j = kb) W4 W5 := ((Fr.refl (fun j => j = kb) W4).drew).trans hF45 (fun _ _ h => h)
        have hb5 := (hF45'.block b (Array.getElem?_eq_some_iff.1 n4).1 (by omega)).trans n4
        have hm5 := (hF45'.block mb (by have := hF4.size; omega) (by omega)).trans hm4
        have ym4 : W4.cell? ⟨mb, 4, none⟩ = some (.slice (some ⟨mkb, 0, none⟩) l2.length mkcap) := node_cell hm4 4
        have y5 : W5.cell? ⟨b, 4, none⟩ = some (.slice (some ⟨kb, 0, none⟩) l.length kcap) := node_cell hb5 4
        have f5 := node_frozen hb5 4
        have hg5' : g5 = kb ∨ W4.heap.size ≤ g5 := hg5
        have r5 := row_fr r4 hF45' (by omega)
        have o5 := (hF45'.block bx (Array.getElem?_eq_some_iff.1 o4).1 (by have := HH.out.2.1; omega)).trans o4
        obtain ⟨q1, hq1⟩ : ∃ q1, q1 = l.length := ⟨_, rfl⟩
        obtain ⟨q2, hq2⟩ : ∃ q2, q2 = l2.length := ⟨_, rfl⟩
        rw [← hq1] at y4 hap5 hown5 y5 hb5
        rw [← hq2] at hap5 hown5 ym4
        have HK := Lib.hid (And.intro hb5 (And.intro hm5 (And.intro hown5 (And.intro r5 (And.intro o5 (And.intro hq1 hq2))))))
        have hbz := (Array.getElem?_eq_some_iff.1 n4).1
        have hz4 := hF4.size
        clear hb5 hm5 hown5 r5 o5 hq1 hq2 n4 r4 hm4 o4 hF45 hg5 p0 p1 hkr mkr hkr4 mkr4
        go_upto_region 3 with fail
        go_cut [] (fun wx => wx.heap[b]? = some (nodeObj gen s (wr y) (.slice (some ⟨g3, 0, none⟩) (n1 + 1 + m1) cap3) (.slice (some ⟨g5, 0, none⟩) (q1 + q2) cap5)) ∧ Fr (fun j => j = b) W5 wx)
        case first =>
          go_region_law (refine step_append_run rfl _ _ 90 90 rfl _ _ (by simp [Act.eval]) (by simp [Act.eval]) hap5 ?_)
          all_goals go_wp2_with fail
          all_goals go_meet
          all_goals
            case rel =>
              exact ⟨node_set4 HK.out.1 _, (Fr.refl (fun j => j = b) W5).setCell (.inl rfl) _⟩
        case rest =>
          obtain ⟨n6, hF56⟩ := hcut
          rename World => W6
          obtain ⟨k1, k2, k3, k4, k5, k6, k7⟩ := HK.out
          clear hap5 y4 y5 ym4 f5
          have hm6 := (hF56.block mb (Array.getElem?_eq_some_iff.1 k2).1 (by omega)).trans k2
          have o6 := (hF56.block bx (Array.getElem?_eq_some_iff.1 k5).1 (by have := HH.out.2.1; omega)).trans k5
          have p0 : W6.cell? ⟨bx, 0, none⟩ = some (.string k) := by simp [World.cell?, o6]
          have p1 : W6.cell? ⟨bx, 1, none⟩ = some (.int .i64 v) := by simp [World.cell?, o6]
          have hcnt := count_in b gen 1 s y (.slice (some ⟨g3, 0, none⟩) (n1 + 1 + m1) cap3) (.slice (some ⟨g5, 0, none⟩) (q1 + q2) cap5) k v (some mb) s2 y2 W6 (.inl rfl) n6 ⟨by omega, by omega⟩ (fun c h => by
            cases h
            exact ⟨⟨by omega, by omega⟩, by omega, mgen, _, _, hm6⟩) (fun h => by cases h)
          have HK2 := Lib.hid (And.intro k3 (And.intro k4 (And.intro k6 k7)))
          clear k1 k2 k3 k4 k5 k6 k7 HK n6 hm6 o6
          go_wp2_with (go_at_call 36; refine hcnt.mono ?_; rintro e W7 ⟨rfl, n7, hF67⟩)
          go_end0
          obtain ⟨k3, k4, k6, k7⟩ := HK2.out
          have hF57 : Fr (fun j => j = b) W5 W7 := hF56.trans hF67 (fun _ _ h => h)
          refine ⟨⟨b, g3, g5, gen, es ++ (k, v) :: mes⟩, rfl, rfl, rfl, rfl, ⟨cap3, .slice (some ⟨g5, 0, none⟩) (q1 + q2) cap5, ?_, ?_, cap5, ?_, ?_⟩, ⟨by dsimp only; omega, by dsimp only; omega⟩, ⟨by dsimp only; omega, fun _ => by dsimp only; omega⟩, ?_⟩
          · dsimp only
            rw [hlen]
            have h1 : ((s : Int) + 1 * (1 + (s2 : Int))) = ((s + (1 + s2) : Nat) : Int) := by omega
            have h2 : ((y : Int) + 1 * ((k.size : Int) + (y2 : Int))) = ((y + (k.size + y2) : Nat) : Int) := by omega
            rw [h1, h2] at n7
            exact n7
          · dsimp only
            rw [hlen]
            exact row_fr k4 hF57 (by omega)
          · rw [k6, k7]; simp
          · rw [List.length_append, ← k6, ← k7, show ptrs (l ++ l2) = ptrs l ++ ptrs l2 from by simp [ptrs]]
            exact row_fr k3 hF57 (by omega)
          · exact ((hF4.mono (S' := fun j => j = b ∨ j = eb ∨ (Option.isSome (some l) = true ∧ j = kb)) (fun _ _ h => by omega)).trans hF45' (fun _ _ h => .inr (.inr ⟨rfl, h⟩))).trans hF57 (fun _ _ h => .inl h)
end Go.Proofs.Ybulkbrzk.BT
