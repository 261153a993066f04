/-
  nodeOf: a new node of copies.
-/
import Derived.Test.YbulkbrzkApp
import Derived.Test.YbulkbrzkPlain
namespace Go.Proofs.Ybulkbrzk.BT
open Go Go.RowKit
set_option linter.unusedVariables false

theorem wr_add2 (a b : Int) : wrap64 (wr a + wr b) = wr (a + b) := by ((try unfold wr); (try simp only [IntKind.wrap_i64]); (try unfold RowKit.wrap64); omega)
theorem wr_add1 (a b : Int) : wrap64 (wr a + b) = wr (a + b) := by ((try unfold wr); (try simp only [IntKind.wrap_i64]); (try unfold RowKit.wrap64); omega)
theorem wr_zero : wr 0 = 0 := by ((try unfold wr); (try simp only [IntKind.wrap_i64]); (try unfold RowKit.wrap64); omega)

/-- the kids: each one's block, size and bytes -/
abbrev Kids := Option (List (Nat × Nat × Nat))
def kval (kb ko kcap : Nat) : Kids → Value
  | none => .slice none 0 0
  | some l => .slice (some ⟨kb, ko, none⟩) l.length kcap
def ksz (l : List (Nat × Nat × Nat)) : Nat := (l.map (·.2.1)).sum
def kby (l : List (Nat × Nat × Nat)) : Nat := (l.map (·.2.2)).sum
def Kids.sz : Kids → Nat
  | none => 0
  | some l => ksz l
def Kids.by_ : Kids → Nat
  | none => 0
  | some l => kby l

theorem take_succ_sum (f : Nat × Nat × Nat → Nat) (l : List (Nat × Nat × Nat)) (j : Nat) (c : Nat × Nat × Nat) (h : l[j]? = some c) : ((l.take (j + 1)).map f).sum = ((l.take j).map f).sum + f c := by
  rw [List.take_add_one, h]; simp
theorem bytes_take_succ (es : List E) (j : Nat) (hj : j < es.length) : bytes (es.take (j + 1)) = bytes (es.take j) + (keyAt es j).size := by
  rw [List.take_add_one, bytes_append]
  simp [keyAt, List.getElem?_eq_getElem hj, bytes]
theorem ksz_take_le (l : List (Nat × Nat × Nat)) (j : Nat) : ksz (l.take j) ≤ ksz l := by
  have : ksz l = ksz (l.take j) + ksz (l.drop j) := by
    unfold ksz
    rw [← List.sum_append, ← List.map_append, List.take_append_drop]
  omega

set_option maxRecDepth 100000 in
set_option maxHeartbeats 4000000 in
theorem nodeOf_in (tb g eb o cap kb ko kcap : Nat) (es : List E) (ks : Kids) (w : World) (hg : w.cell? ⟨tb, 1, none⟩ = some (.int .u64 g)) (hes : 0 < es.length)
    (hc : ∀ j u, (es.flatMap eCells)[j]? = some u → w.cell? ⟨eb, o + j, none⟩ = some u) (hl : es.length ≤ 4096)
    (hk : ∀ l, ks = some l → l.length ≤ 4097 ∧ ksz l ≤ 8192 ∧ ∀ j c, l[j]? = some c → w.cell? ⟨kb, ko + j, none⟩ = some (.pointer (some ⟨c.1, 0, none⟩)) ∧ ∃ g' ev' kv', w.heap[c.1]? = some (nodeObj g' c.2.1 (wr c.2.2) ev' kv')) :
    Calls Yba.prog 31 #[.pointer (some ⟨tb, 0, none⟩), .slice (some ⟨eb, o, none⟩) es.length cap, kval kb ko kcap ks] w fun e w' => ∃ n' : Nd, e = .returned (.pointer (some ⟨n'.b, 0, none⟩)) ∧ n'.gen = g ∧ n'.es = es ∧
      NodeAt w' n' (es.length + ks.sz : Nat) (wr (bytes es + ks.by_ : Nat)) (ks.map (·.map (·.1))) ∧ (w.heap.size ≤ n'.b ∧ w.heap.size ≤ n'.eb ∧ w.heap.size ≤ n'.kb) ∧ (n'.b ≠ n'.eb ∧ n'.b ≠ n'.kb ∧ n'.eb ≠ n'.kb) ∧ Fr (fun _ => False) w w' := by
  have heb : eb < w.heap.size := by
    obtain ⟨e, es', rfl⟩ := List.exists_cons_of_length_pos hes
    exact World.block_lt_of_cell? _ _ (hc 0 (.string e.1) (by simp [eCells]))
  obtain ⟨L, hL⟩ : ∃ L, L = es.length := ⟨_, rfl⟩
  rw [← hL]
  have hL0 : 0 < L := by omega
  have hLl : L ≤ 4096 := by omega
  obtain ⟨kv, hkv⟩ : ∃ kv, kv = kval kb ko kcap ks := ⟨_, rfl⟩
  rw [← hkv]
  obtain ⟨W1, hW1⟩ : ∃ W1, W1 = (newW w g).drew := ⟨_, rfl⟩
  obtain ⟨ne, hne⟩ : ∃ ne, ne = w.heap.size := ⟨_, rfl⟩
  have hF1 : Fr (fun _ => False) w W1 := by rw [hW1]; exact (new_fr w g).drew
  have hnew : Calls Yba.prog 22 #[.pointer (some ⟨tb, 0, none⟩)] w fun e w' => e = .returned (.pointer (some ⟨ne + 1, 0, none⟩)) ∧ w' = W1 := by rw [hW1, hne]; exact newNode_in tb g w hg
  have n1 : W1.heap[ne + 1]? = some (nodeObj g 0 0 (.slice (some ⟨ne, 0, none⟩) 0 31) (.slice none 0 0)) := by rw [hW1, hne]; exact new_node w g
  have r1 : W1.ownsRow 0 30 2 (.slice (some ⟨ne, 0, none⟩) 0 31) 0 [] := by rw [hW1, hne]; exact e31_row w g
  obtain ⟨g3, cap3, W3, hap, hown3, hg3, hF13⟩ := appE W1 ne 0 31 [] r1 ⟨eb, o, none⟩ es.length cap (es.flatMap eCells) (eCells_length es) (fun j u hu => by
    rw [addr_add, hF1.cell (p := ⟨eb, o + j, none⟩) heb (fun h => h)]; exact hc j u hu) (eCells_one es) (by omega)
  rw [Nat.zero_add, ← hL] at hap hown3
  rw [List.nil_append] at hown3
  have hs1 : ne + 1 < W1.heap.size := (Array.getElem?_eq_some_iff.1 n1).1
  have hF3 : Fr (fun _ => False) w W3 := hF1.trans hF13 (fun i hi h => by omega)
  have n3 := (hF13.block (ne + 1) hs1 (by omega)).trans n1
  have c13 : W1.cell? ⟨ne + 1, 3, none⟩ = some (.slice (some ⟨ne, 0, none⟩) 0 31) := node_cell n1 3
  have c33 : W3.cell? ⟨ne + 1, 3, none⟩ = some (.slice (some ⟨ne, 0, none⟩) 0 31) := node_cell n3 3
  have f33 := node_frozen n3 3
  obtain ⟨W4, hW4⟩ : ∃ W4, W4 = W3.setCell ⟨ne + 1, 3, none⟩ (.slice (some ⟨g3, 0, none⟩) L cap3) := ⟨_, rfl⟩
  have n4 : W4.heap[ne + 1]? = some (nodeObj g 0 0 (.slice (some ⟨g3, 0, none⟩) L cap3) (.slice none 0 0)) := by rw [hW4]; exact node_set3 n3 _
  have hF34 : Fr (fun j => j = ne + 1) W3 W4 := by rw [hW4]; exact (Fr.refl (fun j => j = ne + 1) W3).setCell (.inl rfl) _
  have hg3n : g3 ≠ ne + 1 := by omega
  have r4 : W4.ownsRow 0 30 2 (.slice (some ⟨g3, 0, none⟩) L cap3) L (es.flatMap eCells) := row_fr hown3 hF34 hg3n
  have hF4 : Fr (fun _ => False) w W4 := hF3.trans hF34 (fun i hi h => by omega)
  have HH := Lib.hid (And.intro hW4 (And.intro hne (And.intro hg3 (And.intro hF1.size (And.intro hF3.size (And.intro hL (And.intro n4 r4)))))))
  have Hk := Lib.hid hk
  have Hc := Lib.hid hc
  have Hkv := Lib.hid hkv
  clear n1 r1 n3 hown3 hF13 hF34 hg3 hW1 hne hL hl hes hk hc hF1 hF3 hkv r4
  go_enter Yba.func31, Yba.ntmps31
  go_wp2_with (first
    | (go_at_call 22; refine hnew.mono ?_; rintro e w' ⟨rfl, rfl⟩)
    | (at_builtin; refine wpList_append_run _ rfl _ _ 27 27 rfl _ _ rfl rfl hap ?_))
  rw [← HH.out.1]
  clear hnew hap c13 c33 f33
  go_loopw [33] (fun i wx => ∃ j : Nat, i = .int .i64 j ∧ j ≤ L ∧ wx.heap[ne + 1]? = some (nodeObj g j (wr (bytes (es.take j))) (.slice (some ⟨g3, 0, none⟩) L cap3) (.slice none 0 0)) ∧ Fr (fun b => b = ne + 1) W4 wx) (fun i _ => L - (intOf i).toNat)
  case atStart => exact ⟨0, rfl, by omega, by rw [List.take_zero]; simp only [bytes]; rw [show ((0 : Nat) : Int) = 0 from rfl, wr_zero]; exact n4, Fr.refl _ _⟩
  case round =>
    obtain ⟨j, rfl, hjL, nx, hFx⟩ := hrel
    rename World => Wx
    have hF0x : Fr (fun _ => False) w Wx := hF4.trans hFx (fun i hi h => by have := HH.out.2.1; omega)
    by_cases hj : j < L
    · obtain ⟨kk, hkk⟩ : ∃ kk, kk = keyAt es j := ⟨_, rfl⟩
      obtain ⟨vv, hvv⟩ : ∃ vv, vv = valAt es j := ⟨_, rfl⟩
      have hjE : j < es.length := by have := HH.out.2.2.2.2.2.1; omega
      have x0 : Wx.cell? ⟨eb, o + j * 2, none⟩ = some (.string kk) := by
        rw [hF0x.cell (p := ⟨eb, o + j * 2, none⟩) heb (fun h => h)]
        have := flat_get es j 0 (by omega) hjE
        exact Hc.out (j * 2) _ (by rw [Nat.add_zero] at this; rw [this, hkk]; rfl)
      have x1 : Wx.cell? ⟨eb, o + j * 2 + 1, none⟩ = some (.int .i64 vv) := by
        rw [Nat.add_assoc, hF0x.cell (p := ⟨eb, o + (j * 2 + 1), none⟩) heb (fun h => h)]
        have := flat_get es j 1 (by omega) hjE
        exact Hc.out (j * 2 + 1) _ (by rw [this, hvv]; rfl)
      have hebx : eb < Wx.heap.size := by have := hF0x.size; omega
      have HK := Lib.hid (And.intro hkk hvv)
      clear hkk hvv
      go_wp2_with (go_at_call 36; refine (count_in (ne + 1) g 1 j (bytes (es.take j)) (.slice (some ⟨g3, 0, none⟩) L cap3) (.slice none 0 0) kk vv none 0 0 _ (.inl rfl) (heap_alloc' nx) ⟨by omega, by omega⟩ (fun c h => by cases h) (fun _ => ⟨rfl, rfl⟩)).mono ?_; rintro e w' ⟨rfl, n', hF'⟩)
      go_roundw
      case rel =>
        refine ⟨j + 1, by go_num, by omega, ?_, (hFx.alloc _).trans hF' (fun _ _ h => h)⟩
        rw [n', bytes_take_succ es j hjE, ← HK.out.1]
        congr 2
        ((try unfold wr); (try simp only [IntKind.wrap_i64]); (try unfold RowKit.wrap64); omega)
      case measure => simp [intOf]; omega
    · obtain rfl : j = L := by omega
      rw [List.take_of_length_le (by have := HH.out.2.2.2.2.2.1; omega)] at nx
      have rx := row_fr HH.out.2.2.2.2.2.2.2 hFx (by have := HH.out; omega)
      cases ks with
      | none =>
        obtain rfl : kv = .slice none 0 0 := Hkv.out
        have hkn := kids_nil Wx
        go_wp2_with fail
        go_ret
        refine ⟨⟨ne + 1, g3, Wx.heap.size, g, es⟩, rfl, rfl, rfl, ⟨cap3, _, ?_, ?_, rfl⟩, ?_, ?_, hF0x⟩
        · have := HH.out.2.2.2.2.2.1
          subst this
          simpa [Kids.sz, Kids.by_, nodeObj] using nx
        · have := HH.out.2.2.2.2.2.1
          subst this
          exact rx
        · obtain ⟨_, h1, h2, h3, h4, _⟩ := HH.out
          have := hF0x.size
          dsimp only
          omega
        · have b1 := (Array.getElem?_eq_some_iff.1 nx).1
          have b2 := (rx.lt g3 rfl).2
          obtain ⟨_, h1, h2, h3, h4, _⟩ := HH.out
          dsimp only
          omega
      | some l =>
        obtain rfl : kv = .slice (some ⟨kb, ko, none⟩) l.length kcap := Hkv.out
        obtain ⟨hl1, hl2, hkc⟩ := Hk.out l rfl
        have hkn := kids_some Wx ⟨kb, ko, none⟩ l.length kcap
        obtain ⟨W5, hW5⟩ : ∃ W5, W5 = Wx.alloc (.cells (madeCells #[.pointer none] 32) 23) := ⟨_, rfl⟩
        obtain ⟨nk, hnk⟩ : ∃ nk, nk = Wx.heap.size := ⟨_, rfl⟩
        have hm5 : (Instr.makeSlice 90 (.int .i64 0) (.int .i64 32)).run Yba.prog Wx = .ok (.slice (some ⟨nk, 0, none⟩) 0 32) W5 := by rw [hnk, hW5]; exact make90 Wx
        have r5 : W5.ownsRow 0 23 1 (.slice (some ⟨nk, 0, none⟩) 0 32) 0 [] := by rw [hnk, hW5]; exact k32_row Wx
        have hFx5 : Fr (fun _ => False) Wx W5 := by rw [hW5]; exact (Fr.refl _ _).alloc _
        have hF05 : Fr (fun _ => False) w W5 := hF0x.trans hFx5 (fun _ _ h => h)
        obtain ⟨k6, cap6, W6, hap6, hown6, hk6, hF56⟩ := appK W5 nk 0 32 [] r5 ⟨kb, ko, none⟩ l.length kcap (ptrs (l.map (·.1))) (by simp [ptrs]) (fun j u hu => by
          obtain ⟨c, hc, rfl⟩ : ∃ c, l[j]? = some c ∧ u = .pointer (some ⟨c.1, 0, none⟩) := by
            simp only [ptrs, List.getElem?_map, Option.map_eq_some_iff] at hu
            obtain ⟨b, ⟨c, hc, rfl⟩, rfl⟩ := hu
            exact ⟨c, hc, rfl⟩
          have := (hkc j c hc).1
          rw [addr_add, hF05.cell (p := ⟨kb, ko + j, none⟩) (World.block_lt_of_cell? _ _ this) (fun h => h)]; exact this) (ptrs_one _) (by omega)
        rw [Nat.zero_add] at hap6 hown6
        rw [List.nil_append] at hown6
        have b1 := (Array.getElem?_eq_some_iff.1 nx).1
        have b2 := (rx.lt g3 rfl).2
        have hFx6 : Fr (fun _ => False) Wx W6 := hFx5.trans hF56 (fun i hi h => by omega)
        have n6 := (hFx6.block (ne + 1) b1 (fun h => h)).trans nx
        have r6 := row_fr rx hFx6 (fun h => h)
        have c4 : W6.cell? ⟨ne + 1, 4, none⟩ = some (.slice none 0 0) := node_cell n6 4
        have f4 := node_frozen n6 4
        obtain ⟨W7, hW7⟩ : ∃ W7, W7 = W6.setCell ⟨ne + 1, 4, none⟩ (.slice (some ⟨k6, 0, none⟩) l.length cap6) := ⟨_, rfl⟩
        have n7 : W7.heap[ne + 1]? = some (nodeObj g j (wr (bytes es)) (.slice (some ⟨g3, 0, none⟩) j cap3) (.slice (some ⟨k6, 0, none⟩) l.length cap6)) := by rw [hW7]; exact node_set4 n6 _
        have hF67 : Fr (fun j => j = ne + 1) W6 W7 := by rw [hW7]; exact (Fr.refl (fun j => j = ne + 1) W6).setCell (.inl rfl) _
        have hk6n : k6 ≠ ne + 1 := by have := hFx5.size; omega
        have hk6g : k6 ≠ g3 := by have := hFx5.size; omega
        have hk6x : Wx.heap.size ≤ k6 := by have := hFx5.size; omega
        have r7 := row_fr r6 hF67 hg3n
        have o7 := row_fr hown6 hF67 hk6n
        have hF07 : Fr (fun _ => False) w W7 := (hF0x.trans hFx6 (fun _ _ h => h)).trans hF67 (fun i hi h => by have := HH.out.2.1; omega)
        have H7 := Lib.hid (And.intro hW7 (And.intro n7 (And.intro r7 (And.intro o7 (And.intro hkc (And.intro hk6g (And.intro hk6n hk6x)))))))
        clear hW5 hnk r5 hFx5 hF05 hown6 hk6 hF56 hFx6 n6 r6 hF67 r7 o7 hkc hW7 rx nx hk6g hk6x hW4 n4
        go_wp2_with (at_builtin; refine wpList_append_run _ rfl _ _ 90 90 rfl _ _ rfl rfl hap6 ?_)
        rw [← H7.out.1]
        clear hm5 hap6 c4 f4 hkn
        obtain ⟨M, hM⟩ : ∃ M, M = l.length := ⟨_, rfl⟩
        rw [← hM]
        have HM := Lib.hid hM
        clear hM hl1
        have hM1 : M ≤ 4097 := by have := HM.out; have := (Hk.out l rfl).1; omega
        go_loopw [51] (fun i wx => ∃ q : Nat, i = .int .i64 q ∧ q ≤ M ∧ wx.heap[ne + 1]? = some (nodeObj g (j + ksz (l.take q) : Nat) (wr (bytes es + kby (l.take q) : Nat)) (.slice (some ⟨g3, 0, none⟩) j cap3) (.slice (some ⟨k6, 0, none⟩) l.length cap6)) ∧ Fr (fun b => b = ne + 1) W7 wx) (fun i _ => M - (intOf i).toNat)
        case atStart => exact ⟨0, rfl, by omega, by simpa [ksz, kby] using H7.out.2.1, Fr.refl _ _⟩
        case round =>
          obtain ⟨q, rfl, hqM, ny, hFy⟩ := hrel
          rename World => Wy
          have hF0y : Fr (fun _ => False) w Wy := hF07.trans hFy (fun i hi h => by have := HH.out.2.1; omega)
          by_cases hq : q < M
          · have hql : q < l.length := by have := HM.out; omega
            obtain ⟨hp, g', ev', kv', hcn⟩ := H7.out.2.2.2.2.1 q _ (List.getElem?_eq_getElem hql)
            obtain ⟨c, hcd⟩ : ∃ c, c = l[q] := ⟨_, rfl⟩
            rw [← hcd] at hp hcn
            have hcl : c.1 < w.heap.size := (Array.getElem?_eq_some_iff.1 hcn).1
            have hkbl : kb < w.heap.size := World.block_lt_of_cell? _ _ hp
            have x0 : Wy.cell? ⟨kb, ko + q, none⟩ = some (.pointer (some ⟨c.1, 0, none⟩)) := (hF0y.cell (p := ⟨kb, ko + q, none⟩) hkbl (fun h => h)).trans hp
            have hcy := (hF0y.block c.1 hcl (fun h => h)).trans hcn
            have hq1 := take_succ_sum (·.2.1) l q c (by rw [List.getElem?_eq_getElem hql, hcd])
            have hq2 := take_succ_sum (·.2.2) l q c (by rw [List.getElem?_eq_getElem hql, hcd])
            obtain ⟨cb, cs, cy⟩ := c
            dsimp only at *
            have hsum : ksz (l.take q) + cs ≤ 8192 := by
              have h1 : ksz (l.take (q + 1)) = ksz (l.take q) + cs := hq1
              have := ksz_take_le l (q + 1)
              omega
            obtain ⟨Sq, hSq⟩ : ∃ Sq, Sq = ksz (l.take q) := ⟨_, rfl⟩
            obtain ⟨Bq, hBq⟩ : ∃ Bq, Bq = kby (l.take q) := ⟨_, rfl⟩
            rw [← hSq, ← hBq] at ny
            rw [← hSq] at hsum
            have y1 : Wy.cell? ⟨ne + 1, 1, none⟩ = some (.int .i64 (j + Sq : Nat)) := node_cell ny 1
            have y2 : Wy.cell? ⟨cb, 1, none⟩ = some (.int .i64 cs) := node_cell hcy 1
            have yf := node_frozen ny 1
            have hcb : cb ≠ ne + 1 := by have := HH.out.2.1; omega
            have HQ := Lib.hid (And.intro hSq (And.intro hBq (And.intro hq1 (And.intro hq2 (And.intro hcy hcd)))))
            clear hSq hBq hq1 hq2 hcy hcd hp hcn
            go_upto_region 17 with fail
            go_cut [] (fun wx => wx.heap[ne + 1]? = some (nodeObj g (j + Sq + cs : Nat) (wr (bytes es + Bq : Nat)) (.slice (some ⟨g3, 0, none⟩) j cap3) (.slice (some ⟨k6, 0, none⟩) l.length cap6)) ∧ Fr (fun b => b = ne + 1) Wy wx)
            case first =>
              go_region
              all_goals go_wp2_with fail
              all_goals go_meet
              all_goals
                case rel =>
                  refine ⟨?_, ((Fr.refl (fun b => b = ne + 1) Wy).setCell (.inl rfl) _).drew⟩
                  refine (node_set1 ny _).trans ?_
                  congr 2
            case rest =>
              obtain ⟨nz, hFz⟩ := hcut
              rename World => Wz
              clear y1 y2 yf
              have hcz := (hFz.block cb (by have := hF0y.size; omega) hcb).trans HQ.out.2.2.2.2.1
              have z1 : Wz.cell? ⟨ne + 1, 2, none⟩ = some (.int .i64 (wr (bytes es + Bq : Nat))) := node_cell nz 2
              have z2 : Wz.cell? ⟨cb, 2, none⟩ = some (.int .i64 (wr cy)) := node_cell hcz 2
              have zf := node_frozen nz 2
              clear x0 hcz
              have nfin : (Wz.setCell ⟨ne + 1, 2, none⟩ (.int .i64 (wrap64 (wr ((bytes es : Int) + Bq) + wr cy)))).heap[ne + 1]? = some (nodeObj g (j + ksz (l.take (q + 1)) : Nat) (wr (bytes es + kby (l.take (q + 1)) : Nat)) (.slice (some ⟨g3, 0, none⟩) j cap3) (.slice (some ⟨k6, 0, none⟩) l.length cap6)) := by
                obtain ⟨e1, e2, e3, e4, _⟩ := HQ.out
                refine (node_set2 nz _).trans ?_
                have e5 : ksz (l.take (q + 1)) = Sq + cs := by rw [e1]; exact e3
                have e6 : kby (l.take (q + 1)) = Bq + cy := by rw [e2]; exact e4
                rw [e5, e6, ← Nat.add_assoc]
                congr 2
                exact (wr_add2 _ _).trans (by congr 1; omega)
              have HR := Lib.hid (show ∃ q' : Nat, Value.int .i64 ((q : Int) + 1) = .int .i64 q' ∧ q' ≤ M ∧ (Wz.setCell ⟨ne + 1, 2, none⟩ (.int .i64 (wrap64 (wr ((bytes es : Int) + Bq) + wr cy)))).heap[ne + 1]? = some (nodeObj g (j + ksz (l.take q') : Nat) (wr (bytes es + kby (l.take q') : Nat)) (.slice (some ⟨g3, 0, none⟩) j cap3) (.slice (some ⟨k6, 0, none⟩) l.length cap6)) ∧ Fr (fun b => b = ne + 1) W7 (Wz.setCell ⟨ne + 1, 2, none⟩ (.int .i64 (wrap64 (wr ((bytes es : Int) + Bq) + wr cy)))).drew from ⟨q + 1, by simp, by omega, nfin, (((hFy.trans hFz (fun _ _ h => h)).setCell (.inl rfl) _).drew)⟩)
              clear nfin nz hFz hFy hF0y ny HQ H7 n7 hF07
              go_upto_region 18 with fail
              go_region
              all_goals go_wp2_with fail
              all_goals go_roundw
              all_goals first
                | exact HR.out
                | (simp [intOf]; omega)
          · obtain ⟨m1, m2, m3, m4, m5, m6, m7, m8⟩ := H7.out
            go_wp2_with fail
            go_ret
            rw [List.take_of_length_le (by have := HM.out; omega)] at ny
            have m9 : ne = w.heap.size := HH.out.2.1
            have m10 : j = es.length := HH.out.2.2.2.2.2.1
            have m11 := HH.out
            have m12 := hF0x.size
            subst m10
            refine ⟨⟨ne + 1, g3, k6, g, es⟩, rfl, rfl, rfl, ⟨cap3, .slice (some ⟨k6, 0, none⟩) l.length cap6, ny, row_fr m3 hFy hg3n, cap6, by simp, ?_⟩, ?_, ?_, hF0y⟩
            · have := row_fr m4 hFy m7
              simpa using this
            · dsimp only; omega
            · dsimp only; omega
end Go.Proofs.Ybulkbrzk.BT
