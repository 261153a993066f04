/-
  LawS3429ABigFrozen: the walk.
-/
import Derived.Test.YbulkbrzkNums
import Derived.Deep.RegionHeld3
namespace Go.Proofs.Ybulkbrzk.BT
open Go Go.RowKit
set_option linter.unusedVariables false

/-- the array of values -/
def Vals (W : World) (vb : Nat) (vals : Nat → Int) : Prop := ∃ c : Array Value, W.heap[vb]? = some (.cells c 39 (0, 0)) ∧ c.size = 1009 ∧ ∀ j, j < 1009 → c[j]? = some (.int .i64 (vals j))

theorem zero39 : Yba.zeroCells39.size = 1009 ∧ ∀ j, j < 1009 → Yba.zeroCells39[j]? = some (.int .i64 0) := by
  have h : Yba.zeroCells39 = Array.replicate 1009 (.int .i64 0) := by kernel_rfl
  rw [h]
  refine ⟨by simp, fun j hj => ?_⟩
  rw [Array.getElem?_replicate, if_pos hj]

theorem Vals.cell {W : World} {vb : Nat} {vals : Nat → Int} (h : Vals W vb vals) {j : Nat} (hj : j < 1009) : W.cell? ⟨vb, j, none⟩ = some (.int .i64 (vals j)) ∧ W.frozen? ⟨vb, j, none⟩ = false := by
  obtain ⟨c, h1, h2, h3⟩ := h
  exact ⟨by simp [World.cell?, h1]; exact h3 j hj, by simp [World.frozen?, h1]⟩
theorem Vals.set {W : World} {vb : Nat} {vals : Nat → Int} (h : Vals W vb vals) (i : Nat) (v : Int) (hi : i < 1009) : Vals (W.setCell ⟨vb, i, none⟩ (.int .i64 v)) vb (upd vals i v) := by
  obtain ⟨c, h1, h2, h3⟩ := h
  refine ⟨_, heap_setCell_same (i := i) h1 _, by simpa using h2, fun j hj => ?_⟩
  rw [Array.getElem?_setIfInBounds]
  unfold upd
  by_cases e : i = j
  · subst e
    simp [h2, hi]
  · rw [if_neg e, if_neg (fun h => e h.symm)]
    exact h3 j hj
theorem Vals.fr {S : Nat → Prop} {W W' : World} {vb : Nat} {vals : Nat → Int} (h : Vals W vb vals) (hF : Fr S W W') (hn : ¬ S vb) : Vals W' vb vals := by
  obtain ⟨c, h1, h2, h3⟩ := h
  exact ⟨c, (hF.block vb (Array.getElem?_eq_some_iff.1 h1).1 hn).trans h1, h2, h3⟩
theorem lst_none {vals : Nat → Int} : ∀ (m : Nat), (∀ j, j < m → vals j = -1) → lst vals m = []
  | 0, _ => rfl
  | m + 1, h => by
    simp only [lst, lst_none m (fun j hj => h j (by omega)), h m (by omega)]
    rfl

/-- append of one entry, laid in a new block -/
theorem app_one (W2 : World) (o : Value) (n : Nat) (xs : List Value) (h : W2.ownsRow 0 30 2 o n xs) (k : ByteArray) (v : Int) (hn : n + 1 ≤ 16384) :
    ∃ v' W3, (Builtin.append_ #[27, 27] 27 #[o, .slice (some ⟨W2.heap.size, 0, none⟩) 1 1]).run Yba.prog (W2.alloc (.cells #[.string k, .int .i64 v] 30)) = .ok v' W3 ∧ W3.ownsRow 0 30 2 v' (n + 1) (xs ++ [.string k, .int .i64 v]) ∧ (v'.ownBlock = o.ownBlock ∨ ∃ b, v'.ownBlock = some b ∧ W2.heap.size ≤ b) ∧ Fr (fun j => o.ownBlock = some j) W2 W3 := by
  obtain ⟨W, hW⟩ : ∃ W, W = W2.alloc (.cells #[.string k, .int .i64 v] 30) := ⟨_, rfl⟩
  have hF : Fr (fun _ => False) W2 W := by rw [hW]; exact (Fr.refl _ _).alloc _
  have e0 : W.heap[W2.heap.size]? = some (.cells #[.string k, .int .i64 v] 30 (0, 0)) := by
    rw [hW]
    show (W2.heap.push _)[W2.heap.size]? = _
    simp
  obtain ⟨v', W3, h1, h2, h3, h4⟩ := appV W o n xs (rowV_fr h hF (fun _ _ h => h)) ⟨W2.heap.size, 0, none⟩ 1 1 [.string k, .int .i64 v] rfl (fun p u hu => by
    rw [addr_add, Nat.zero_add]
    simpa [World.cell?, e0] using hu) (one2 _ _) hn
  rw [hW] at h1
  refine ⟨v', W3, h1, h2, ?_, (hF.mono (fun _ _ h => h.elim)).trans h4 (fun _ _ h => h)⟩
  rcases h3 with h3 | h3
  · exact .inl h3
  · exact .inr ⟨_, h3, hF.size⟩

set_option maxRecDepth 100000 in
set_option maxHeartbeats 4000000 in
theorem big_in (c a b s : Nat) (bt : Bool) (hc : c < 65536) (ha : a < 65536) (hb : b < 65536) (hs : s < 65536) (w : World) :
    Calls Yba.prog 4 #[.int .u16 c, .int .u16 a, .int .u16 b, .int .u16 s, .bool bt] w fun e w' => e = .returned (.bool true) ∧ Fr (fun _ => False) w w' := by
  obtain ⟨vb, hvb⟩ : ∃ vb, vb = w.heap.size := ⟨_, rfl⟩
  obtain ⟨W0, hW0⟩ : ∃ W0, W0 = w.alloc (.cells Yba.zeroCells39 39) := ⟨_, rfl⟩
  have hF0 : Fr (fun _ => False) w W0 := by rw [hW0]; exact (Fr.refl _ _).alloc _
  have hv0 : Vals W0 vb (fun _ => 0) := ⟨Yba.zeroCells39, by rw [hW0, hvb]; show (w.heap.push _)[w.heap.size]? = _; simp, zero39.1, zero39.2⟩
  have hvbw : w.heap.size ≤ vb := by omega
  have H0 := Lib.hid (And.intro hW0 (And.intro hvb hv0))
  clear hW0 hvb hv0
  go_enter Yba.func4, Yba.ntmps4
  go_upto_region 6 with fail
  rw [← H0.out.1, ← H0.out.2.1]
  go_loopw [15] (fun i wx => ∃ (j : Nat) (vals : Nat → Int), i = .int .i64 j ∧ j ≤ 1009 ∧ Vals wx vb vals ∧ (∀ k, k < j → vals k = -1) ∧ Fr (fun q => q = vb) W0 wx) (fun i _ => 1009 - (intOf i).toNat)
  case atStart => exact ⟨0, _, rfl, by omega, H0.out.2.2, fun k hk => by omega, Fr.refl _ _⟩
  case round =>
    obtain ⟨j, vals, rfl, hj, hV, hm, hFx⟩ := hrel
    rename World => Wx
    by_cases hjl : j < 1009
    · obtain ⟨x0, f0⟩ := hV.cell hjl
      have HV := Lib.hid (And.intro hV hm)
      clear hV hm
      go_wp2_with fail
      go_roundw
      case rel =>
        obtain ⟨hV, hm⟩ := HV.out
        refine ⟨j + 1, upd vals j (-1), by go_num, by omega, hV.set j (-1) hjl, fun k hk => ?_, hFx.setCell (.inl rfl) _⟩
        unfold upd
        split
        · rfl
        · exact hm k (by omega)
      case measure => simp [intOf]; omega
    · have hV0 : lst vals 1009 = [] := lst_none 1009 (fun k hk => hm k (by omega))
      obtain ⟨tb, htb⟩ : ∃ tb, tb = Wx.heap.size := ⟨_, rfl⟩
      obtain ⟨W1, hW1⟩ : ∃ W1, W1 = Wx.alloc (.cells #[.pointer none, .int .u64 0] 26) := ⟨_, rfl⟩
      have hF1 : Fr (fun _ => False) Wx W1 := by rw [hW1]; exact (Fr.refl _ _).alloc _
      have hwx : Fr (fun _ => False) w Wx := hF0.trans hFx (fun q hq h => by omega)
      have ot : W1.heap[tb]? = some (treeObj (.pointer none) 0) := by
        rw [hW1, htb]
        show (Wx.heap.push _)[Wx.heap.size]? = _
        simp [treeObj]
      have hV1 := hV.fr hF1 (fun h => h)
      have hvt : vb < tb := by
        obtain ⟨cc, h1, _⟩ := hV
        have := (Array.getElem?_eq_some_iff.1 h1).1
        omega
      have hw1 : Fr (fun _ => False) w W1 := hwx.trans hF1 (fun _ _ h => h)
      have htw : w.heap.size ≤ tb := by have := hwx.size; omega
      have HT := Lib.hid (And.intro hW1 (And.intro htb (And.intro ot (And.intro hV1 hV0))))
      have hjl' : ¬ ((j : Int) < 1009) := by omega
      clear hV hm hFx hV0 htb hW1 hF1 ot hV1 hwx
      go_upto_region 11 with fail
      rw [← HT.out.1, ← HT.out.2.1]
      rw [show ((c : Int) % 700) = ((c % 700 : Nat) : Int) from by omega, show ((a : Int) % 1008 + 1) = ((a % 1008 + 1 : Nat) : Int) from by omega, show ((b : Int) % 1009) = ((b % 1009 : Nat) : Int) from by omega]
      obtain ⟨CC, hCC⟩ : ∃ CC, CC = c % 700 := ⟨_, rfl⟩
      obtain ⟨MU, hMU⟩ : ∃ MU, MU = a % 1008 + 1 := ⟨_, rfl⟩
      obtain ⟨OF, hOF⟩ : ∃ OF, OF = b % 1009 := ⟨_, rfl⟩
      rw [← hCC, ← hMU, ← hOF]
      have hCl : CC ≤ 699 := by omega
      have hMl : MU ≤ 1008 := by omega
      have hOl : OF ≤ 1008 := by omega
      clear hCC hMU hOF
      go_loopw [17] (fun i wx => ∃ (n : Nat) (r : Root) (vs : Nat → Int), i = .int .i64 n ∧ n ≤ CC ∧ Vals wx vb vs ∧ wx.heap[tb]? = some (treeObj r.ptr 0) ∧ RTree 0 0 wx r ∧ (r.fp 0).Nodup ∧ tb ∉ r.fp 0 ∧ (∀ x, x ∈ r.fp 0 → w.heap.size ≤ x ∧ x ≠ vb) ∧ r.flat = lst vs 1009 ∧ r.height ≤ n ∧ r.flat.length ≤ n ∧ Fr (fun _ => False) w wx) (fun i _ => CC - (intOf i).toNat)
      case atStart => exact ⟨0, none, vals, rfl, by omega, HT.out.2.2.2.1, HT.out.2.2.1, trivial, by simp [Root.fp], by simp [Root.fp], fun x hx => by simp [Root.fp] at hx, HT.out.2.2.2.2.symm, Nat.le_refl _, Nat.le_refl _, hw1⟩
      case round =>
        obtain ⟨n, r, vs, rfl, hn, hV, ot, hT, hnd, htb, hfp, hfl, hht, hlen, hFy⟩ := hrel
        rename World => Wy
        by_cases hnl : n < CC
        · obtain ⟨PR, hPR⟩ : ∃ PR, PR = n * MU := ⟨_, rfl⟩
          have hPb : PR ≤ 704592 := by
            have q : n * MU ≤ 699 * 1008 := Nat.mul_le_mul (show n ≤ 699 by omega) hMl
            omega
          have hPi : (n : Int) * (MU : Int) = (PR : Int) := by rw [hPR]; simp
          obtain ⟨nm, hnm⟩ : ∃ nm, nm = (PR + OF) % 1009 := ⟨_, rfl⟩
          have hnb : nm < 1009 := by omega
          have hni : ((PR : Int) + (OF : Int)) % 1009 = (nm : Int) := by omega
          have hkey := fun Wz => key_in nm (by omega) Wz
          have HL := Lib.hid (And.intro hV (And.intro ot (And.intro hT (And.intro hnd (And.intro htb (And.intro hfp (And.intro hfl (And.intro hht (And.intro hlen hFy)))))))))
          clear hV ot hT hnd htb hfp hfl hht hlen hFy hPR hnm
          go_upto_region 14 with fail
          rw [hni]
          have hset := fun (Wz : World) (hz : Fr (fun _ => False) Wy Wz) => set_in tb 0 0 r (key4 nm) n Wz ((hz.block tb (Array.getElem?_eq_some_iff.1 HL.out.2.1).1 (fun h => h)).trans HL.out.2.1) (Nat.zero_le _) HL.out.2.2.2.2.1 (HL.out.2.2.1.still hz) HL.out.2.2.2.1 (by have := HL.out.2.2.2.2.2.2.2.2.1; omega) (by rw [HL.out.2.2.2.2.2.2.1]; exact lst_sorted vs 1009 (by omega))
          clear hni hPi
          go_upto_region 15 with (first
            | (go_at_call 14; refine (hkey _).mono ?_; rintro e W2 ⟨rfl, f2⟩)
            | (go_at_call 8; refine (hset W2 f2).mono ?_; rintro e W3 ⟨h', t', rfl, s1, s2, s3, s4, s5, s6⟩))
          clear hset hkey
          obtain ⟨hV, ot, hT, hnd, htb, hfp, hfl, hht, hlen, hFy⟩ := HL.out
          have hz2 := f2.size
          have hzy := hFy.size
          have hvl : vb < Wy.heap.size := by
            obtain ⟨cc, h1, _⟩ := hV
            exact (Array.getElem?_eq_some_iff.1 h1).1
          have hV3 : Vals W3 vb vs := (hV.fr f2 (fun h => h)).fr s6.fr (fun h => by
            rcases List.mem_cons.1 h with h | h
            · omega
            · exact (hfp vb h).2 rfl)
          obtain ⟨x0, x1⟩ := hV3.cell hnb
          have hw3 : Fr (fun _ => False) w W3 := (hFy.trans f2 (fun _ _ h => h)).trans s6.fr (fun q hq h => by
            rcases List.mem_cons.1 h with h | h
            · omega
            · have := (hfp q h).1; omega)
          have HM := Lib.hid (And.intro hV3 (And.intro s1 (And.intro s2 (And.intro s3 (And.intro s4 (And.intro s5 (And.intro s6 (And.intro hw3 (And.intro hfl (And.intro hfp (And.intro hht hlen)))))))))))
          clear hV ot hT hnd htb hfp hfl hht hlen hFy hV3 s1 s2 s3 s4 s5 s6 hw3
          go_wp2_with fail
          go_roundw
          case rel =>
            obtain ⟨hV3, s1, s2, s3, s4, s5, s6, hw3, hfl, hfp, hht, hlen⟩ := HM.out
            have hnd' := List.nodup_cons.1 s6.nd
            have hfp' : ∀ x, x ∈ t'.fp 0 → w.heap.size ≤ x ∧ x ≠ vb := fun x hx => by
              rcases s6.sub x (List.mem_cons_of_mem _ hx) with h | h
              · rcases List.mem_cons.1 h with h | h
                · subst h
                  exact (hnd'.1 hx).elim
                · exact hfp x h
              · exact ⟨by omega, by omega⟩
            have hFs : Fr (fun q => q = vb) W3 (W3.setCell ⟨vb, nm, none⟩ (.int .i64 n)) := (Fr.refl (fun q => q = vb) W3).setCell (.inl rfl) _
            refine ⟨n + 1, some ⟨h', t'⟩, upd vs nm n, by go_num, by omega, hV3.set nm n hnb, ?_, ?_, hnd'.2, hnd'.1, hfp', ?_, ?_, ?_, hw3.trans hFs (fun q hq h => by omega)⟩
            · exact (hFs.block tb (Array.getElem?_eq_some_iff.1 s5).1 (by omega)).trans s5
            · exact Tree.fr hFs (fun q hq h => by omega) (t := t') s4 (fun x hx h => (hfp' x hx).2 h)
            · show t'.flat = _
              rw [s2, hfl, ins_lst vs nm n (by omega) 1009 hnb (by omega)]
            · show h' ≤ n + 1
              omega
            · show t'.flat.length ≤ n + 1
              omega
          case measure => simp [intOf]; omega
        · have HL := Lib.hid (And.intro hV (And.intro ot (And.intro hT (And.intro hnd (And.intro htb (And.intro hfp (And.intro hfl (And.intro hht (And.intro hlen hFy)))))))))
          have hnl' : ¬ ((n : Int) < (CC : Int)) := by omega
          clear hV ot hT hnd htb hfp hfl hht hlen hFy
          go_upto_region 18 with fail
          go_loopw [19, 20] (fun uo i wx => ∃ (q : Nat) (o : Value), o = uo ∧ i = .int .i64 q ∧ q ≤ 1009 ∧ wx.ownsRow 0 30 2 o (lst vs q).length ((lst vs q).flatMap eCells) ∧ (∀ b, o.ownBlock = some b → Wy.heap.size ≤ b) ∧ Fr (fun _ => False) Wy wx) (fun _ i _ => 1009 - (intOf i).toNat)
          case atStart => exact ⟨0, .slice none 0 0, rfl, rfl, by omega, ⟨rfl, .inl ⟨rfl, rfl⟩⟩, fun b hb => by simp [Value.ownBlock] at hb, Fr.refl _ _⟩
          case round =>
            obtain ⟨q, o, hO, rfl, hq, oR, oB, hFz⟩ := hrel
            subst hO
            rename World => Wz
            have hVz := HL.out.1.fr hFz (fun h => h)
            by_cases hql : q < 1009
            · obtain ⟨x0, _⟩ := hVz.cell hql
              obtain ⟨vq, hvq⟩ : ∃ vq, vq = vs q := ⟨_, rfl⟩
              rw [← hvq] at x0
              by_cases hpos : 0 ≤ vq
              · have hlq : lst vs (q + 1) = lst vs q ++ [(key4 q, vq)] := by simp only [lst]; rw [if_pos (by rw [← hvq]; exact hpos), ← hvq]
                have hkey := fun W => key_in q (by omega) W
                have hll := lst_length vs q
                have vbl := (World.block_lt_of_cell? _ _ x0)
                have happ := fun (W2 : World) (f2 : Fr (fun _ => False) Wz.drew W2) => app_one W2 o _ _ (rowV_fr oR ((Fr.refl (fun _ => False) Wz).drew.trans f2 (fun _ _ h => h)) (fun _ _ h => h)) (key4 q) vq (by omega)
                have HVB : Hid (¬ o.ownBlock = some vb) := Lib.hid (fun h => by
                  have q1 := oB vb h
                  obtain ⟨cc, q2, _⟩ := HL.out.1
                  have := (Array.getElem?_eq_some_iff.1 q2).1
                  omega)
                have HO := Lib.hid (And.intro oR (And.intro oB (And.intro hlq hFz)))
                clear oR hlq hVz hvq hFz oB hll
                go_upto_region 21 with fail
                go_region_held3 (fun w' => w'.cell? ⟨vb, q, none⟩ = some (.int .i64 vq)) (first | go_keep | exact y0 | exact y1)
                  (first
                  | (go_at_call 14; refine (hkey _).mono ?_; rintro e W2 ⟨rfl, f2⟩; have y0 := (f2.cell (p := ⟨vb, q, none⟩) vbl (fun h => h)).trans x0)
                  | (obtain ⟨v', W3, hrun, g1, g2, g3⟩ := happ W2 f2; refine step_append_run rfl _ _ 27 27 rfl _ _ (by simp [Act.eval]) (by simp [Act.eval]) hrun ?_; have y1 := (g3.cell (p := ⟨vb, q, none⟩) (Nat.lt_of_lt_of_le vbl f2.size) HVB.out).trans y0))
                all_goals go_wp2_with fail
                all_goals
                  obtain ⟨oR, oB, hlq, hFz⟩ := HO.out
                  have hF23 : Fr (fun _ => False) Wy W3 := ((hFz.trans (Fr.refl (fun _ => False) Wz).drew (fun _ _ h => h)).trans f2 (fun _ _ h => h)).trans g3 (fun p hp h => by have := oB p h; omega)
                  refine ⟨⟨q + 1, v', rfl, by go_num, by omega, ?_, ?_, hF23⟩, by simp [intOf]; omega⟩
                  · rw [hlq, List.length_append, List.flatMap_append]
                    exact g1
                  · intro b' hb'
                    rcases g2 with h | ⟨b2, h, h2⟩
                    · rw [hb'] at h
                      exact oB b' h.symm
                    · rw [hb'] at h
                      cases h
                      have := f2.size
                      have := hFz.size
                      have e1 : Wz.drew.heap.size = Wz.heap.size := rfl
                      omega
              · have HO := Lib.hid (And.intro oR (And.intro oB hFz))
                have hlq : lst vs (q + 1) = lst vs q := by simp only [lst]; rw [if_neg (by rw [← hvq]; exact hpos), List.append_nil]
                have HQ := Lib.hid hlq
                clear oR hlq hVz hvq hFz oB
                go_wp2_with fail
                go_roundw
                case rel => exact ⟨q + 1, o, rfl, by go_num, by omega, by rw [HQ.out]; exact HO.out.1, HO.out.2.1, HO.out.2.2⟩
                case measure => simp [intOf]; omega
            · obtain rfl : q = 1009 := by omega
              obtain ⟨hV, ot, hT, hnd, htb, hfp, hfl, hht, hlen, hFy⟩ := HL.out
              have HO := Lib.hid (And.intro oR (And.intro oB hFz))
              have hql' : ¬ ((1009 : Int) < 1009) := by omega
              have hkey := fun (k : Nat) (hk : k < 10000) W => key_in k hk W
              have hs2 : ((s : Int) % 1100) = ((s % 1100 : Nat) : Int) := by omega
              clear oR oB hFz hVz hV ot hT hnd htb hfp hfl hht hlen hFy
              go_upto_region 22 with fail
              obtain ⟨sn, hsn⟩ : ∃ sn, sn = s % 1100 := ⟨_, rfl⟩
              rw [← hsn] at hs2
              have hsl : sn < 10000 := by omega
              clear hsn
              have hk4 := hkey sn hsl Wz
              go_upto_if 84 with (go_at_call 14; refine hk4.mono ?_; rintro e W4 ⟨rfl, f4⟩)
              go_cut [21] (fun a1 wx => ∃ sk : ByteArray, a1 = .string sk ∧ wx = W4)
              case first =>
                cases bt
                · go_wp2_with fail
                  go_meet
                  case rel => exact ⟨_, rfl, rfl⟩
                · go_wp2_with fail
                  go_meet
                  case rel => exact ⟨_, rfl, rfl⟩
              case rest =>
                obtain ⟨sk, rfl, hWW⟩ := hcut
                subst hWW
                obtain ⟨hV, ot, hT, hnd, htb, hfp, hfl, hht, hlen, hFy⟩ := HL.out
                obtain ⟨oR, oB, hFz⟩ := HO.out
                have hFy4 := hFz.trans f4 (fun _ _ h => h)
                have hfz := freeze_in tb 0 r.pa _ (by rw [← Root.ptr_pa]; exact (hFy4.block tb (Array.getElem?_eq_some_iff.1 ot).1 (fun h => h)).trans ot) (by omega)
                clear hV ot hT hnd htb hfp hfl hht hlen hFy oR oB hFz
                go_upto_region 26 with (go_at_call 15; refine hfz.mono ?_; rintro e W5 ⟨rfl, z1, z2⟩)
                clear hfz
                obtain ⟨W6, hW6⟩ : ∃ W6, W6 = W5.alloc (.cells #[.pointer r.pa, .int .u64 0] 26) := ⟨_, rfl⟩
                obtain ⟨fb, hfb⟩ : ∃ fb, fb = W5.heap.size := ⟨_, rfl⟩
                have e6 : W5.alloc (.cells #[.pointer r.pa, .int .u64 ((0 : Nat) : Int)] 26) = W6 := hW6.symm
                try rw [e6]
                try rw [← hW6]
                rw [← hfb]
                obtain ⟨hV, ot, hT, hnd, htb, hfp, hfl, hht, hlen, hFy⟩ := HL.out
                obtain ⟨oR, oB, hFz⟩ := HO.out
                have hF56 : Fr (fun _ => False) W5 W6 := by rw [hW6]; exact (Fr.refl _ _).alloc _
                have o6 : W6.heap[fb]? = some (treeObj (.pointer r.pa) 0) := by
                  rw [hW6, hfb]
                  show (W5.heap.push _)[W5.heap.size]? = _
                  simp [treeObj]
                have t6 := (hF56.block tb (Array.getElem?_eq_some_iff.1 z1).1 (fun h => h)).trans z1
                have hT4 := hT.still hFy4
                have hT5 : RTree 0 0 W5 r := hT4.fr z2 (fun i hi => by omega) (fun x hx h => htb (h ▸ hx))
                obtain ⟨hT6, hfp6⟩ := (hT5.still hF56).frozen'
                obtain ⟨d0, d1, d2⟩ := tree_cell0 t6
                obtain ⟨e0, _, _⟩ := tree_cell0 o6
                have hcut2 := cut_root tb 1 W6.heap.size sk r W6 (by omega) d1 (by rw [hfp6]; simp) (Nat.le_refl _) hT6 (by rw [hfp6]; simp) (by omega) (by rw [hfl]; exact lst_sorted vs 1009 (by omega))
                have hz4 := hFy4.size
                have hz5 := z2.size
                have hz6 := hF56.size
                have hFw6 : Fr (fun _ => False) w W6 := ((hFy.trans hFy4 (fun _ _ h => h)).trans z2 (fun q hq h => by omega)).trans hF56 (fun _ _ h => h)
                have HR := Lib.hid (And.intro hT6 (And.intro hfp6 (And.intro hfl (And.intro oR (And.intro oB (And.intro z2 (And.intro hF56 (And.intro hFw6 (And.intro hlen f4)))))))))
                rw [Root.ptr_pa] at *
                clear hV ot hT hnd htb hfp hfl hht hlen hFy oR oB hFz hT4 hT5 hT6 hfp6 hF56 hFw6 z1 z2 o6 t6 hW6 e6 hfb
                go_upto_region 27 with (go_at_call 12; refine hcut2.mono ?_; rintro e W7 ⟨lo, up, rfl, m1, m2, m3, m4, m5, m6, m7, m8⟩)
                clear hcut2
                obtain ⟨hT6, hfp6, hfl, oR, oB, z2, hF56, hFw6, hlen, f4'⟩ := HR.out
                have hF67 : Fr (fun _ => False) W6 W7 := m8.fr.mono (fun i _ h => by rw [hfp6] at h; cases h)
                have oR6 := rowV_fr (rowV_fr (rowV_fr oR f4' (fun _ _ h => h)) z2 (fun b' hb' h => by have q0 := oB b' hb'; have q1 := (Array.getElem?_eq_some_iff.1 HL.out.2.1).1; have q2 : b' = tb := h; omega)) hF56 (fun _ _ h => h)
                have oR7 := rowV_fr oR6 hF67 (fun _ _ h => h)
                have hz7 := hF67.size
                have hchk := check_in 1 W6.heap.size lo up (lst vs 1009) _ sk W7 (by rw [← hfl]; exact m3) oR7 m6 m7 hz7 (by rw [← hfl]; omega) m4 m5
                have HS := Lib.hid (And.intro hF67 oR7)
                clear hT6 hfp6 hfl oR oB z2 hF56 hFw6 hlen f4' oR6 oR7 m1 m2 m3 m4 m5 m6 m7 m8
                go_upto_region 29 with (go_at_call 13; refine hchk.mono ?_; rintro e W8 ⟨rfl, f8⟩)
                clear hchk
                have e8 : W8.cell? ⟨fb, 0, none⟩ = some (.pointer r.pa) := by
                  have q1 := (HS.out.1.trans f8 (fun _ _ h => h)).cell (p := ⟨fb, 0, none⟩) (World.block_lt_of_cell? _ _ e0) (fun h => h)
                  exact q1.trans e0
                have hz8 := f8.size
                have hwk := walk_root 1 W6.heap.size r W8 (HR.out.1.still (HS.out.1.trans f8 (fun _ _ h => h))) (by omega) (by have := HR.out.2.2.2.2.2.2.2.2.1; omega)
                go_upto_region 30 with (go_at_call 16; refine hwk.mono ?_; rintro e W9 ⟨ov, s9, y9, rfl, p1, p2, p3⟩)
                clear hwk
                have heq := eq_in r.flat ov _ W9 p1 (rowV_fr (rowV_fr (by have := HS.out.2; rw [← HR.out.2.2.1] at this; exact this) f8 (fun _ _ h => h)) p3 (fun _ _ h => h)) (by have := HR.out.2.2.2.2.2.2.2.2.1; omega)
                go_wp2_with (go_at_call 17; refine heq.mono ?_; rintro e W10 ⟨rfl, f10⟩)
                go_ret
                exact ⟨rfl, (((HR.out.2.2.2.2.2.2.2.1.trans HS.out.1 (fun _ _ h => h)).trans f8 (fun _ _ h => h)).trans p3 (fun _ _ h => h)).trans f10 (fun _ _ h => h)⟩
end Go.Proofs.Ybulkbrzk.BT
