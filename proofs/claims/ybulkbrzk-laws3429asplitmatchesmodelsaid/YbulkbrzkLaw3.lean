/-
  LawS3429ASplitMatchesModel: the walk.
-/
import Derived.Test.YbulkbrzkCheck
import Derived.Test.YbulkbrzkSort
namespace Go.Proofs.Ybulkbrzk.BT
open Go Go.RowKit
set_option linter.unusedVariables false

/-- append of one entry, laid in a new block -/
theorem app_ent (W2 : World) (o : Value) (n : Nat) (xs : List Value) (h : W2.ownsRow 0 30 2 o n xs) (k : ByteArray) (v : Int) (hn : n + 1 ≤ 16384) :
    ∃ v' W3, (Builtin.append_ #[27, 27] 27 #[o, .slice (some ⟨W2.heap.size, 0, none⟩) 1 1]).run Yba.prog (W2.alloc (.cells #[.string k, .int .i64 v] 30)) = .ok v' W3 ∧ W3.ownsRow 0 30 2 v' (n + 1) (xs ++ [.string k, .int .i64 v]) ∧ (v'.ownBlock = o.ownBlock ∨ ∃ b, v'.ownBlock = some b ∧ W2.heap.size ≤ b) ∧ Fr (fun j => o.ownBlock = some j) W2 W3 := by
  obtain ⟨W, hW⟩ : ∃ W, W = W2.alloc (.cells #[.string k, .int .i64 v] 30) := ⟨_, rfl⟩
  have hF : Fr (fun _ => False) W2 W := by rw [hW]; exact (Fr.refl _ _).alloc _
  have e0 : W.heap[W2.heap.size]? = some (.cells #[.string k, .int .i64 v] 30 (0, 0)) := by
    rw [hW]
    show (W2.heap.push _)[W2.heap.size]? = _
    simp
  obtain ⟨v', W3, h1, h2, h3, h4⟩ := appV W o n xs (rowV_fr h hF (fun _ _ h => h)) ⟨W2.heap.size, 0, none⟩ 1 1 [.string k, .int .i64 v] rfl (fun p u hu => by
    rw [addr_add, Nat.zero_add]
    simpa [World.cell?, e0] using hu) (one2 _ _) hn
  rw [hW] at h1
  refine ⟨v', W3, h1, h2, ?_, (hF.mono (fun _ _ h => h.elim)).trans h4 (fun _ _ h => h)⟩
  rcases h3 with h3 | h3
  · exact .inl h3
  · exact .inr ⟨_, h3, hF.size⟩

/-- a row's block lies in the heap -/
theorem rowV_lt {W : World} {v : Value} {n : Nat} {xs : List Value} (h : W.ownsRow 0 30 2 v n xs) : ∀ x, v.ownBlock = some x → x < W.heap.size := by
  intro x hx
  rcases h.2 with ⟨rfl, _⟩ | ⟨g, cap, cur, rfl, _, hg, _⟩
  · simp [Value.ownBlock] at hx
  · simp only [Value.ownBlock, Option.some.injEq] at hx
    rw [← hx]
    exact (Array.getElem?_eq_some_iff.1 hg).1

set_option maxRecDepth 100000 in
set_option maxHeartbeats 4000000 in
theorem law3_out (a0 : Option Addr) (L cap0 : Nat) (sp : ByteArray) (w : World) (hL : 512 < L) :
    Calls Yba.prog 3 #[.slice a0 L cap0, .string sp] w fun e w' => e = .returned (.bool true) ∧ Fr (fun _ => False) w w' := by
  have hI : (512 : Int) < (L : Int) := by omega
  go_enter Yba.func3, Yba.ntmps3
  go_wp2_with fail
  go_ret
  exact ⟨rfl, by first | exact Fr.refl _ _ | exact (Fr.refl _ _).drew⟩

set_option maxRecDepth 100000 in
set_option maxHeartbeats 4000000 in
theorem law3_in (a0 : Option Addr) (L cap0 : Nat) (ks : Nat → ByteArray) (sp : ByteArray) (w : World) (hL : L ≤ 512) (hk : L = 0 ∨ ∃ b off, a0 = some ⟨b, off, none⟩ ∧ b < w.heap.size ∧ ∀ j, j < L → w.cell? ⟨b, off + j, none⟩ = some (.string (ks j))) :
    Calls Yba.prog 3 #[.slice a0 L cap0, .string sp] w fun e w' => e = .returned (.bool true) ∧ Fr (fun _ => False) w w' := by
  obtain ⟨tb, htb⟩ : ∃ tb, tb = w.heap.size := ⟨_, rfl⟩
  obtain ⟨W1, hW1⟩ : ∃ W1, W1 = w.alloc (.cells #[.pointer none, .int .u64 0] 26) := ⟨_, rfl⟩
  have hF1 : Fr (fun _ => False) w W1 := by rw [hW1]; exact (Fr.refl _ _).alloc _
  have ot : W1.heap[tb]? = some (treeObj (.pointer none) 0) := by
    rw [hW1, htb]
    show (w.heap.push _)[w.heap.size]? = _
    simp [treeObj]
  have hI : ¬ ((512 : Int) < (L : Int)) := by omega
  have H0 := Lib.hid (And.intro hW1 (And.intro htb (And.intro ot hk)))
  have htw : w.heap.size ≤ tb := by omega
  clear hW1 htb ot hk
  go_enter Yba.func3, Yba.ntmps3
  go_upto_region 6 with fail
  rw [← H0.out.1, ← H0.out.2.1]
  go_loopw [6, 17] (fun uo i wx => ∃ (q : Nat) (r : Root) (M : List E) (o : Value), o = uo ∧ i = .int .i64 q ∧ q ≤ L ∧ wx.ownsRow 0 30 2 o M.length (M.flatMap eCells) ∧ (∀ b, o.ownBlock = some b → tb < b ∧ b ∉ r.fp 0) ∧ wx.heap[tb]? = some (treeObj r.ptr 0) ∧ RTree 0 0 wx r ∧ (r.fp 0).Nodup ∧ tb ∉ r.fp 0 ∧ (∀ x, x ∈ r.fp 0 → w.heap.size ≤ x) ∧ Sorted r.flat ∧ r.flat.Perm M ∧ r.height ≤ q ∧ M.length ≤ q ∧ Fr (fun _ => False) w wx) (fun _ i _ => L - (intOf i).toNat)
  case atStart => exact ⟨0, none, [], .slice none 0 0, rfl, rfl, by omega, ⟨rfl, .inl ⟨rfl, rfl⟩⟩, fun b hb => by simp [Value.ownBlock] at hb, H0.out.2.2.1, trivial, by simp [Root.fp], by simp [Root.fp], fun x hx => by simp [Root.fp] at hx, List.Pairwise.nil, List.Perm.refl _, Nat.le_refl _, Nat.le_refl _, hF1⟩
  case round =>
    obtain ⟨q, r, M, o, hO, rfl, hq, oR, oB, ot, hT, hnd, htb, hfp, hS, hp, hht, hlen, hFy⟩ := hrel
    subst hO
    rename World => Wy
    by_cases hql : q < L
    · obtain ⟨b, off, rfl, hb, hc⟩ := H0.out.2.2.2.resolve_left (by omega)
      obtain ⟨kq, hkq⟩ : ∃ kq, kq = ks q := ⟨_, rfl⟩
      have x0 : Wy.cell? ⟨b, off + q, none⟩ = some (.string kq) := by
        rw [hkq]
        exact (hFy.cell (p := ⟨b, off + q, none⟩) hb (fun h => h)).trans (hc q hql)
      have hset := fun (Wz : World) (hz : Fr (fun _ => False) Wy Wz) => set_in tb 0 0 r kq q Wz ((hz.block tb (Array.getElem?_eq_some_iff.1 ot).1 (fun h => h)).trans ot) (Nat.zero_le _) htb (hT.still hz) hnd (by have := hp.length_eq; omega) hS
      have HL := Lib.hid (And.intro oR (And.intro oB (And.intro ot (And.intro hT (And.intro hnd (And.intro htb (And.intro hfp (And.intro hS (And.intro hp (And.intro hht (And.intro hlen hFy)))))))))))
      have hI1 : (0 : Int) ≤ (q : Int) := by omega
      have hI2 : (q : Int) < (L : Int) := by omega
      clear oR oB ot hT hnd htb hfp hS hp hht hlen hFy hc hkq
      go_upto_region 9 with (go_at_call 8; refine (hset _ (by first | exact Fr.refl _ _ | exact (Fr.refl _ _).drew)).mono ?_; rintro e W3 ⟨h', t', rfl, s1, s2, s3, s4, s5, s6⟩)
      clear hset
      obtain ⟨oR, oB, ot, hT, hnd, htb, hfp, hS, hp, hht, hlen, hFy⟩ := HL.out
      have hoF : ∀ x, o.ownBlock = some x → x ∉ tb :: r.fp 0 := fun x hx h => by
        rcases List.mem_cons.1 h with h | h
        · have := (oB x hx).1
          omega
        · exact (oB x hx).2 h
      have oR3 : W3.ownsRow 0 30 2 o M.length (M.flatMap eCells) := rowV_fr oR s6.fr (fun x hx h => hoF x hx h)
      have hw3 : Fr (fun _ => False) w W3 := hFy.trans s6.fr (fun i hi h => by
        rcases List.mem_cons.1 h with h | h
        · omega
        · have := hfp i h; omega)
      have hnd' := List.nodup_cons.1 s6.nd
      have hfp' : ∀ x, x ∈ t'.fp 0 → w.heap.size ≤ x := fun x hx => by
        rcases s6.sub x (List.mem_cons_of_mem _ hx) with h | h
        · rcases List.mem_cons.1 h with h | h
          · omega
          · exact hfp x h
        · have := hFy.size
          omega
      have hoF' : ∀ x, o.ownBlock = some x → x ∉ t'.fp 0 := fun x hx h => by
        rcases s6.sub x (List.mem_cons_of_mem _ h) with h' | h'
        · exact hoF x hx h'
        · have := rowV_lt oR x hx
          omega
      have hS' : Sorted t'.flat := by rw [s2]; exact ins_sorted hS
      have hlt' : ∀ x, x ∈ t'.fp 0 → x < W3.heap.size := fun x hx => s6.lt x (List.mem_cons_of_mem _ hx)
      have HM := Lib.hid (And.intro oR3 (And.intro hw3 (And.intro hnd' (And.intro hfp' (And.intro hoF' (And.intro hS' (And.intro s2 (And.intro s4 (And.intro s5 hlt')))))))))
      have HN := Lib.hid (And.intro oB (And.intro hS (And.intro hp (And.intro hht (And.intro hlen s1)))))
      obtain ⟨a1, c1, rfl, hb1, hc1⟩ := rowV_open oR3
      obtain ⟨ML, hML⟩ : ∃ ML, ML = M.length := ⟨_, rfl⟩
      rw [← hML] at hb1 hc1
      have hMq : ML ≤ q := by omega
      have HML := Lib.hid hML
      have HB := Lib.hid hb1
      rw [← hML]
      clear oR oB ot hT hnd htb hfp hS hp hht hlen hFy HL hoF oR3 hw3 hnd' hfp' hoF' hS' s1 s2 s3 s4 s5 s6 hML hb1 hlt'
      go_upto_region 10 with fail
      go_loopw [9] (fun i wx => ∃ j : Nat, i = .int .i64 j ∧ j ≤ ML ∧ (∀ k, k < j → keyAt M k ≠ kq) ∧ Fr (fun _ => False) W3 wx) (fun i _ => ML - (intOf i).toNat)
      case atStart => exact ⟨0, rfl, Nat.zero_le _, fun k hk => by omega, Fr.refl _ _⟩
      case round =>
        obtain ⟨j, rfl, hj, hne, hFj⟩ := hrel
        rename World => Wj
        by_cases hjl : j < ML
        · obtain ⟨b1, rfl, hob⟩ := HB.out (by omega)
          have oRj := row_fr HM.out.1 hFj (fun h => h)
          obtain ⟨x1, x2⟩ := entry_cells oRj j (by rw [← HML.out]; exact hjl)
          obtain ⟨kk, hkk⟩ : ∃ kk, kk = keyAt M j := ⟨_, rfl⟩
          rw [← hkk] at x1
          have hI3 : (0 : Int) ≤ (j : Int) := by omega
          have hI4 : (j : Int) < (ML : Int) := by omega
          have f2 : Wj.frozen? ⟨b1, j * 2 + 1, none⟩ = false := by
            obtain ⟨_, _, cur, hg, _, _⟩ := row_open oRj
            simp [World.frozen?, hg]
          have HK := Lib.hid (And.intro hkk (And.intro hne (And.intro hFj oRj)))
          clear hkk oRj hne
          by_cases hkq : kk = kq
          · subst hkq
            go_wp2_with fail
            go_roundw
            case rel =>
              obtain ⟨oR3, hw3, hnd', hfp', hoF', hS', s2, s4, s5, hlt'⟩ := HM.out
              obtain ⟨oB, hS, hp, hht, hlen, s1⟩ := HN.out
              obtain ⟨hkk, hne, hFj, oRj⟩ := HK.out
              have hML := HML.out
              subst hML
              have hFs : Fr (fun x => x = b1) Wj (Wj.setCell ⟨b1, j * 2 + 1, none⟩ (.int .i64 q)) := (Fr.refl (fun x => x = b1) Wj).setCell (.inl rfl) _
              have hob1 := oB b1 rfl
              have hob2 := hoF' b1 rfl
              have e1 := flat_set M j q hjl
              rw [← hkk] at e1
              refine ⟨q + 1, some ⟨h', t'⟩, M.set j (kk, q), .slice (some ⟨b1, 0, none⟩) M.length c1, rfl, by go_num, by omega, ?_, ?_, ?_, ?_, hnd'.2, hnd'.1, hfp', hS', ?_, ?_, ?_, ?_⟩
              · rw [List.length_set, ← e1]
                exact row_set oRj (by omega) _
              · intro x hx
                cases hx
                exact ⟨hob1.1, hob2⟩
              · refine (hFs.block tb ?_ (by omega)).trans ((hFj.block tb (Array.getElem?_eq_some_iff.1 s5).1 (fun h => h)).trans s5)
                exact Nat.lt_of_lt_of_le (Array.getElem?_eq_some_iff.1 s5).1 hFj.size
              · exact Tree.fr hFs (fun x hx h => by omega) (t := t') (Tree.fr hFj (fun x hx h => h) (t := t') s4 (fun x hx h => h)) (fun x hx h => hob2 (h ▸ hx))
              · show t'.flat.Perm _
                rw [s2]
                refine model_set hS hp kk (valAt M j) q j ?_
                rw [hkk]
                unfold keyAt valAt
                rw [List.getElem?_eq_getElem hjl]
                rfl
              · show h' ≤ q + 1
                omega
              · rw [List.length_set]
                omega
              · exact (hw3.trans hFj (fun _ _ h => h)).trans hFs (fun x hx h => by omega)
            case measure => simp [intOf]; omega
          · have hkl : (kk.toList == kq.toList) = false := by
              rw [beq_eq_false_iff_ne]
              exact fun h => hkq (toList_inj h)
            go_wp2_with fail
            go_roundw
            case rel =>
              obtain ⟨hkk, hne, hFj, oRj⟩ := HK.out
              refine ⟨j + 1, by go_num, by omega, fun k hk => ?_, hFj⟩
              by_cases hkj : k = j
              · rw [hkj, ← hkk]
                exact hkq
              · exact hne k (by omega)
            case measure => simp [intOf]; omega
        · have oRj := rowV_fr HM.out.1 hFj (fun _ _ h => h)
          have hml := HML.out
          rw [← hml] at oRj
          obtain ⟨v', W5, hrun, g1, g2, g3⟩ := app_ent Wj _ _ _ oRj kq q (by omega)
          have hI4 : ¬ ((j : Int) < (ML : Int)) := by omega
          have HA := Lib.hid (And.intro g1 (And.intro g2 (And.intro g3 (And.intro hne (And.intro hFj hml)))))
          clear g1 g2 g3 hne hFj hml oRj
          go_wp2_with (at_builtin; refine wpList_append_run _ rfl _ _ 27 27 rfl _ _ rfl rfl hrun ?_)
          go_roundw
          case rel =>
            obtain ⟨oR3, hw3, hnd', hfp', hoF', hS', s2, s4, s5, hlt'⟩ := HM.out
            obtain ⟨oB, hS, hp, hht, hlen, s1⟩ := HN.out
            obtain ⟨g1, g2, g3, hne, hFj, hml⟩ := HA.out
            subst hml
            refine ⟨q + 1, some ⟨h', t'⟩, M ++ [(kq, (q : Int))], v', rfl, by go_num, by omega, ?_, ?_, ?_, ?_, hnd'.2, hnd'.1, hfp', hS', ?_, ?_, ?_, ?_⟩
            · rw [List.length_append, List.flatMap_append]
              exact g1
            · intro x hx
              rcases g2 with h | ⟨b2, h, h2⟩
              · rw [hx] at h
                exact ⟨(oB x h.symm).1, hoF' x h.symm⟩
              · rw [hx] at h
                cases h
                have := hFj.size
                have h3 := (Array.getElem?_eq_some_iff.1 s5).1
                exact ⟨by omega, fun hm => by have := hlt' x hm; omega⟩
            · refine (g3.block tb ?_ (fun h => by have := (oB tb h).1; omega)).trans ((hFj.block tb (Array.getElem?_eq_some_iff.1 s5).1 (fun h => h)).trans s5)
              exact Nat.lt_of_lt_of_le (Array.getElem?_eq_some_iff.1 s5).1 hFj.size
            · exact Tree.fr g3 (fun x hx h => by omega) (t := t') (Tree.fr hFj (fun x hx h => h) (t := t') s4 (fun x hx h => h)) (fun x hx h => hoF' x h hx)
            · show t'.flat.Perm _
              rw [s2]
              refine model_app hS hp kq q (fun e he => ?_)
              obtain ⟨i, hi, rfl⟩ := List.mem_iff_getElem.1 he
              have := hne i (by omega)
              unfold keyAt at this
              rw [List.getElem?_eq_getElem hi] at this
              exact this
            · show h' ≤ q + 1
              omega
            · rw [List.length_append]
              simp
              omega
            · exact (hw3.trans hFj (fun _ _ h => h)).trans g3 (fun x hx h => by have := (oB x h).1; omega)
          case measure => simp [intOf]; omega
    · have hpl := hp.length_eq
      have hsort := sort_in M r.flat hS hp o Wy oR (by omega)
      have hI2 : ¬ ((q : Int) < (L : Int)) := by omega
      have HL := Lib.hid (And.intro oB (And.intro ot (And.intro hT (And.intro hnd (And.intro htb (And.intro hfp (And.intro hS (And.intro hpl (And.intro hht (And.intro hlen hFy))))))))))
      clear oR oB ot hT hnd htb hfp hS hp hht hlen hFy hpl
      go_upto_region 17 with (go_at_call 9; refine hsort.mono ?_; rintro e W2 ⟨rfl, g1, g2⟩)
      clear hsort
      obtain ⟨oB, ot, hT, hnd, htb, hfp, hS, hpl, hht, hlen, hFy⟩ := HL.out
      have ot2 : W2.heap[tb]? = some (treeObj r.ptr 0) := (g2.block tb (Array.getElem?_eq_some_iff.1 ot).1 (fun h => by have := (oB tb h).1; omega)).trans ot
      have hT2 : RTree 0 0 W2 r := hT.fr g2 (fun i hi => by omega) (fun x hx h => (oB x h).2 hx)
      rw [Root.ptr_pa] at ot2
      obtain ⟨d0, d1, d2⟩ := tree_cell0 ot2
      have hcut2 := cut_root tb 0 0 sp r W2 (by omega) d1 htb (Nat.zero_le _) hT2 hnd (by omega) hS
      have HR := Lib.hid (And.intro g1 (And.intro g2 hT2))
      clear oB ot hT hnd htb hfp hS hpl hht hlen hFy g1 g2 hT2 ot2
      go_upto_region 18 with (go_at_call 12; refine hcut2.mono ?_; rintro e W7 ⟨lo, up, rfl, m1, m2, m3, m4, m5, m6, m7, m8⟩)
      clear hcut2
      obtain ⟨oB, ot, hT, hnd, htb, hfp, hS, hpl, hht, hlen, hFy⟩ := HL.out
      obtain ⟨g1, g2, hT2⟩ := HR.out
      have oR7 := rowV_fr g1 m8.fr (fun x hx h => (oB x hx).2 h)
      have hchk := check_in 0 0 lo up r.flat o sp W7 m3 oR7 m6 m7 (Nat.zero_le _) (by omega) m4 m5
      have hF7 : Fr (fun _ => False) w W7 := (hFy.trans g2 (fun x hx h => by have := (oB x h).1; omega)).trans m8.fr (fun x hx h => by have := hfp x h; omega)
      clear oB ot hT hnd htb hfp hS hpl hht hlen hFy g1 g2 hT2 oR7 m1 m2 m3 m4 m5 m6 m7 m8
      go_wp2_with (go_at_call 13; refine hchk.mono ?_; rintro e W8 ⟨rfl, f8⟩)
      go_ret
      exact ⟨rfl, hF7.trans f8 (fun _ _ h => h)⟩
end Go.Proofs.Ybulkbrzk.BT
