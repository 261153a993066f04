/-
  zzs3429awalk at a node with kids.
-/
import Derived.Test.YbulkbrzkWalk
namespace Go.Proofs.Ybulkbrzk.BT
open Go Go.RowKit
set_option linter.unusedVariables false

/-- the first j kids and entries -/
def pre {h : Nat} (ks : List (GT h)) (es : List E) (j : Nat) : List E := fore ((ks.take j).map GT.flat) (es.take j)
theorem pre_succ {h : Nat} (ks : List (GT h)) (es : List E) (j : Nat) (K : GT h) (hK : ks[j]? = some K) (hj : j < es.length) : pre ks es (j + 1) = pre ks es j ++ K.flat ++ [(keyAt es j, valAt es j)] := by
  have hjk : j < ks.length := (List.getElem?_eq_some_iff.1 hK).1
  unfold pre
  rw [List.take_add_one, hK, List.take_add_one, List.getElem?_eq_getElem hj, List.map_append]
  rw [fore_append _ _ _ _ (by rw [List.length_map, List.length_take, List.length_take]; omega)]
  rw [val_get hj]
  simp [fore]
theorem pre_end {h : Nat} (n : Nd) (ks : List (GT h)) (K : GT h) (hK : ks[n.es.length]? = some K) (hl : ks.length = n.es.length + 1) : (nk n ks).flat = pre ks n.es n.es.length ++ K.flat := by
  obtain ⟨A, K', B, h1, h2⟩ := split_kids ks n.es.length (by omega)
  have hB : B = [] := by
    rw [h1, List.length_append, List.length_cons] at hl
    exact List.eq_nil_of_length_eq_zero (by omega)
  subst hB
  subst h1
  have hKK : K' = K := by
    rw [List.getElem?_append_right (by omega), h2] at hK
    simpa using hK
  subst hKK
  rw [focus_flat (n := n) hl]
  unfold pre
  rw [show n.es.length = A.length from h2.symm]
  simp [aft]
theorem pre_len {h : Nat} (ks : List (GT h)) (es : List E) (j : Nat) : True := trivial

theorem lens_succ {h : Nat} (ks : List (GT h)) (j : Nat) (K : GT h) (hK : ks[j]? = some K) : lens ((ks.take (j + 1)).map GT.flat) = lens ((ks.take j).map GT.flat) + K.flat.length ∧ byts ((ks.take (j + 1)).map GT.flat) = byts ((ks.take j).map GT.flat) + bytes K.flat := by
  rw [List.take_add_one, hK]
  simp [lens, byts]
theorem lens_le {h : Nat} (ks : List (GT h)) (j : Nat) : lens ((ks.take j).map GT.flat) ≤ lens (ks.map GT.flat) := by
  have : lens (ks.map GT.flat) = lens ((ks.take j).map GT.flat) + lens ((ks.drop j).map GT.flat) := by
    unfold lens
    rw [← List.sum_append, ← List.map_append, ← List.map_append, List.take_append_drop]
  omega
theorem pre_sub {h : Nat} (ks : List (GT h)) (es : List E) (hl : ks.length = es.length + 1) (j : Nat) (hj : j ≤ es.length) : (pre ks es j).length ≤ (weave (ks.map GT.flat) es).length := by
  obtain ⟨A, K, B, h1, h2⟩ := split_kids ks j (by omega)
  subst h1
  subst h2
  have := focus_flat (n := ⟨0, 0, 0, 0, es⟩) hl
  change weave ((A ++ K :: B).map GT.flat) es = _ at this
  rw [this]
  unfold pre
  simp

set_option maxRecDepth 100000 in
set_option maxHeartbeats 16000000 in
theorem walk_inner {h : Nat} (g N : Nat) (t : GT (h + 1)) (w : World) (ov : Value) (out : List E) (ht : Tree g N w t) (ho : w.ownsRow 0 30 2 ov out.length (out.flatMap eCells)) (hap : ∀ b, ov.ownBlock = some b → N ≤ b ∧ b ∉ t.fp g) (hN : N ≤ w.heap.size) (hl : out.length + t.flat.length ≤ 4000)
    (ih : ∀ (K : GT h) (W : World) (o : Value) (ol : List E), Tree g N W K → W.ownsRow 0 30 2 o ol.length (ol.flatMap eCells) → (∀ b, o.ownBlock = some b → N ≤ b ∧ b ∉ K.fp g) → N ≤ W.heap.size → ol.length + K.flat.length ≤ 4000 → Calls Yba.prog 16 #[K.ptr, o] W (WalkPost K.flat o ol W)) :
    Calls Yba.prog 16 #[t.ptr, ov] w (WalkPost t.flat ov out w) := by
  have hno := lies_not (S := fun j => ov.ownBlock = some j) (fun i hi h => by have := (hap i h).1; omega) ht.lies (fun x hx h => (hap x h).2 (t.fp_own x hx))
  have htf : ∀ W' , Fr (fun j => ov.ownBlock = some j) w W' → Tree g N W' t := fun W' hF => ht.fr hF (fun i hi h => by have := (hap i h).1; omega) (fun x hx h => (hap x h).2 hx)
  have hlt0 := fun x hx => (ht.fp_lt x hx).2
  obtain ⟨cap, kv, hb, he, kcap, hkv, hk⟩ := ht.1
  have hkl : t.2.length = t.1.es.length + 1 := ht.2.1
  have hw1 := weave_length (t.2.map GT.flat) t.1.es (by rw [List.length_map]; exact hkl)
  have hw2 := weave_bytes (t.2.map GT.flat) t.1.es (by rw [List.length_map]; exact hkl)
  obtain ⟨⟨b, eb, kb, gen, es⟩, ks⟩ := t
  have hno' : ¬ ov.ownBlock = some b ∧ ¬ ov.ownBlock = some eb ∧ ¬ ov.ownBlock = some kb := ⟨hno.1, hno.2.1, hno.2.2 rfl⟩
  obtain ⟨FL, hFL⟩ : ∃ FL, FL = (nk ⟨b, eb, kb, gen, es⟩ ks).flat := ⟨_, rfl⟩
  change (weave (ks.map GT.flat) es).length = es.length + lens (ks.map GT.flat) at hw1
  change bytes (weave (ks.map GT.flat) es) = bytes es + byts (ks.map GT.flat) at hw2
  have hFL' : FL = weave (ks.map GT.flat) es := hFL
  rw [← hFL'] at hw1 hw2
  change w.heap[b]? = some (nodeObj gen (nk ⟨b, eb, kb, gen, es⟩ ks).flat.length (wr (bytes (nk ⟨b, eb, kb, gen, es⟩ ks).flat)) (.slice (some ⟨eb, 0, none⟩) es.length cap) kv) at hb
  rw [List.length_map] at hkv hk
  change kv = .slice (some ⟨kb, 0, none⟩) ks.length kcap at hkv
  subst hkv
  change ks.length = es.length + 1 at hkl
  change w.ownsRow 0 30 2 (.slice (some ⟨eb, 0, none⟩) es.length cap) es.length (es.flatMap eCells) at he
  change w.ownsRow 0 23 1 (.slice (some ⟨kb, 0, none⟩) ks.length kcap) ks.length (ptrs (ks.map fun k => k.nd.b)) at hk
  change out.length + (nk ⟨b, eb, kb, gen, es⟩ ks).flat.length ≤ 4000 at hl
  rw [← hFL] at hb hl
  rw [hkl] at hb hk
  have hbl := (Array.getElem?_eq_some_iff.1 hb).1
  obtain ⟨Le, hLe⟩ : ∃ Le, Le = es.length := ⟨_, rfl⟩
  rw [← hLe] at hb he hk hkl hw1
  have c3 : w.cell? ⟨b, 3, none⟩ = some (.slice (some ⟨eb, 0, none⟩) Le cap) := node_cell hb 3
  have hpn := fun W a => ptr_some W a
  have hLl : Le ≤ 4000 := by omega
  have H0 := Lib.hid (And.intro hb (And.intro he (And.intro hk (And.intro hkl (And.intro hLe (And.intro hFL' (And.intro ho (And.intro hap (And.intro htf (And.intro hlt0 (And.intro hw1 hw2)))))))))))
  have Hih := Lib.hid ih
  clear hno hb he hk hkl hLe hFL hFL' ho hap htf hlt0 hw1 hw2 ih ht
  show Calls Yba.prog 16 #[.pointer (some ⟨b, 0, none⟩), ov] w (WalkPost (nk ⟨b, eb, kb, gen, es⟩ ks).flat ov out w)
  go_enter Yba.func16, Yba.ntmps16
  go_upto_region 6 with fail
  go_loopw [9, 29] (fun y i wx => ∃ j : Nat, y = .int .i64 (wr (bytes (es.take j))) ∧ i = .int .i64 j ∧ j ≤ Le ∧ Fr (fun _ => False) w wx) (fun _ i _ => Le - (intOf i).toNat)
  case atStart => exact ⟨0, by rw [List.take_zero]; simp only [bytes]; rw [show ((0 : Nat) : Int) = 0 from rfl, wr_zero], rfl, by omega, Fr.refl _ _⟩
  case round =>
    obtain ⟨j, rfl, rfl, hjL, hFx⟩ := hrel
    rename World => Wx
    by_cases hj : j < Le
    · have he := H0.out.2.1
      have hLe := H0.out.2.2.2.2.1
      rw [hLe] at he
      obtain ⟨x0, x1⟩ := entry_cells (row_fr he hFx (fun h => h)) j (by omega)
      obtain ⟨kk, hkk⟩ : ∃ kk, kk = keyAt es j := ⟨_, rfl⟩
      obtain ⟨vv, hvv⟩ : ∃ vv, vv = valAt es j := ⟨_, rfl⟩
      rw [← hkk] at x0
      rw [← hvv] at x1
      have hyn : wrap64 (wr (bytes (es.take j)) + kk.size) = wr (bytes (es.take (j + 1))) := by
        rw [wr_add1, bytes_take_succ es j (by omega), ← hkk]
        simp
      have HY := Lib.hid hyn
      clear he hLe hkk hvv hyn c3
      go_wp2_with fail
      go_roundw
      case rel => exact ⟨j + 1, by rw [HY.out], by go_num, by omega, hFx.alloc _⟩
      case measure => simp [intOf]; omega
    · obtain rfl : j = Le := by omega
      rw [List.take_of_length_le (by have := H0.out.2.2.2.2.1; omega)]
      have bx := (hFx.block b hbl (fun h => h)).trans H0.out.1
      have c3x : Wx.cell? ⟨b, 3, none⟩ = some (.slice (some ⟨eb, 0, none⟩) j cap) := node_cell bx 3
      have c4x : Wx.cell? ⟨b, 4, none⟩ = some (.slice (some ⟨kb, 0, none⟩) (j + 1) kcap) := node_cell bx 4
      have hkn := kids_some Wx ⟨kb, 0, none⟩ (j + 1) kcap
      clear c3 bx
      have hwj : IntKind.i64.wrap ((j : Int) + 1) = (j : Int) + 1 := by rw [IntKind.wrap_i64]; omega
      go_upto_region 11 with fail
      go_quiet (fail)
      obtain ⟨Wq, hWq⟩ : ∃ Wq, Wq = Wx.drewN nq := ⟨_, rfl⟩
      rw [← hWq]
      have hFq : Fr (fun _ => False) w Wq := by rw [hWq]; exact hFx.drewN _
      clear hWq c3x c4x hkn
      go_upto_region 14 with fail
      go_loopw [1, 8, 9, 12] (fun uo s y i wx => ∃ (m : Nat) (P : List E) (o : Value), o = uo ∧ i = .int .i64 m ∧ m ≤ j + 1 ∧ s = .int .i64 (j + lens ((ks.take m).map GT.flat) : Nat) ∧ y = .int .i64 (wr (bytes es + byts ((ks.take m).map GT.flat) : Nat)) ∧ (m ≤ j → P = pre ks es m) ∧ (j < m → P = FL) ∧ wx.ownsRow 0 30 2 o (out.length + P.length) ((out ++ P).flatMap eCells) ∧ (o.ownBlock = ov.ownBlock ∨ ∃ b', o.ownBlock = some b' ∧ w.heap.size ≤ b') ∧ Fr (fun j => ov.ownBlock = some j) w wx) (fun _ _ _ i _ => j + 1 - (intOf i).toNat)
      case atStart =>
        refine ⟨0, [], ov, rfl, rfl, by omega, by simp [lens], by simp [byts], fun _ => by simp [pre, fore], fun h => by omega, ?_, .inl rfl, hFq.mono (fun _ _ h => h.elim)⟩
        rw [List.append_nil]
        exact rowV_fr H0.out.2.2.2.2.2.2.1 hFq (fun _ _ h => h)
      case round =>
        obtain ⟨m, P, o, hO, rfl, hmj, rfl, rfl, hP1, hP2, oRow, oBl, hFy⟩ := hrel
        subst hO
        rename World => Wy
        obtain ⟨hb, he, hk, hkl, hLe, hFL', ho, hap, htf, hlt0, hw1, hw2⟩ := H0.out
        have by_ := (hFy.block b hbl hno'.1).trans hb
        have ey := row_fr he hFy hno'.2.1
        have ky := row_fr hk hFy hno'.2.2
        have c3y : Wy.cell? ⟨b, 3, none⟩ = some (.slice (some ⟨eb, 0, none⟩) j cap) := node_cell by_ 3
        have c4y : Wy.cell? ⟨b, 4, none⟩ = some (.slice (some ⟨kb, 0, none⟩) (j + 1) kcap) := node_cell by_ 4
        obtain ⟨SS, hSS⟩ : ∃ SS, SS = j + lens ((ks.take m).map GT.flat) := ⟨_, rfl⟩
        obtain ⟨YY, hYY⟩ : ∃ YY, YY = bytes es + byts ((ks.take m).map GT.flat) := ⟨_, rfl⟩
        rw [← hSS, ← hYY]
        by_cases hm : m ≤ j
        · have hP := hP1 hm
          obtain ⟨K, hK⟩ : ∃ K, ks[m]? = some K := ⟨ks[m], List.getElem?_eq_getElem (by omega)⟩
          have hKm : K ∈ ks := List.mem_of_getElem? hK
          have ckm : Wy.cell? ⟨kb, m, none⟩ = some (.pointer (some ⟨K.nd.b, 0, none⟩)) := by
            rw [row_cell ky m (by omega)]
            simp [ptrs, hK]
          have hTK : Tree gen N Wy K ∨ True := .inr trivial
          have hTK2 : Tree g N Wy K := (htf Wy hFy).2.2.2.2 K hKm
          have hKfp : ∀ x, x ∈ K.fp g → x ∈ (nk ⟨b, eb, kb, gen, es⟩ ks).fp g := fun x hx => List.mem_append.2 (.inr (List.mem_flatMap.2 ⟨K, hKm, hx⟩))
          have hapo : ∀ b', o.ownBlock = some b' → N ≤ b' ∧ b' ∉ K.fp g := fun b' hb' => by
            rcases oBl with h | ⟨b2, h, h2⟩
            · rw [hb'] at h
              exact ⟨(hap b' h.symm).1, fun hx => (hap b' h.symm).2 (hKfp b' hx)⟩
            · rw [hb'] at h
              cases h
              exact ⟨by omega, fun hx => by have := hlt0 b' (hKfp b' hx); omega⟩
          have hlK : (out ++ P).length + K.flat.length ≤ 4000 := by
            rw [hP, List.length_append]
            by_cases hmj' : m = j
            · subst hmj'
              have := pre_end ⟨b, eb, kb, gen, es⟩ ks K (by rw [← hLe]; exact hK) (by show ks.length = es.length + 1; rw [← hLe]; exact hkl)
              have h3 : FL.length = (pre ks es m).length + K.flat.length := by rw [hFL', ← List.length_append, hLe]; exact congrArg List.length this
              omega
            · have h4 := pre_succ ks es m K hK (by omega)
              have h5 := pre_sub ks es (by rw [← hLe]; exact hkl) (m + 1) (by omega)
              rw [h4, ← hFL'] at h5
              simp at h5
              omega
          have hzy := hFy.size
          have hrec := Hih.out K Wy o (out ++ P) hTK2 (by rw [List.length_append]; exact oRow) hapo (by omega) hlK
          unfold GT.ptr at hrec
          have hpnn := ptr_some Wy ⟨K.nd.b, 0, none⟩
          have HQ := Lib.hid (And.intro hP (And.intro hK (And.intro oRow (And.intro oBl (And.intro hFy (And.intro by_ (And.intro ey (And.intro hlK (And.intro hSS hYY)))))))))
          have hls : SS + K.flat.length ≤ 4000 := by
            have q1 := (lens_succ ks m K hK).1
            have q2 := lens_le ks (m + 1)
            omega
          clear hb he hk hkl hLe hFL' ho hap htf hlt0 hw1 hw2 by_ ey ky hP1 hP2 hP hK hKm hTK hTK2 hKfp hapo hlK oRow oBl hFy hSS hYY
          go_upto_region 25 with (go_at_call 16; refine hrec.mono ?_; rintro e W1 ⟨ov1, rfl, r1, r2, r3⟩)
          clear hrec c3y c4y ckm
          obtain ⟨hP, hK, oRow, oBl, hFy, by_, ey, hlK, hSS, hYY⟩ := HQ.out
          obtain ⟨hb, he, hk, hkl, hLe, hFL', ho, hap, htf, hlt0, hw1, hw2⟩ := H0.out
          have hFz : Fr (fun j => ov.ownBlock = some j) w W1 := hFy.trans r3 (fun i hi h => by
            rcases oBl with h' | ⟨b2, h', h2⟩
            · exact h'.symm.trans h
            · rw [h'] at h
              cases h
              omega)
          have bz := (hFz.block b hbl hno'.1).trans hb
          have ez := row_fr he hFz hno'.2.1
          have c3z : W1.cell? ⟨b, 3, none⟩ = some (.slice (some ⟨eb, 0, none⟩) j cap) := node_cell bz 3
          have hzz := hFz.size
          have oBl1 : ov1.ownBlock = ov.ownBlock ∨ ∃ b', ov1.ownBlock = some b' ∧ w.heap.size ≤ b' := by
            rcases r2 with h' | ⟨b2, h', h2⟩
            · rcases oBl with h'' | ⟨b3, h'', h3⟩
              · exact .inl (h'.trans h'')
              · exact .inr ⟨b3, h'.trans h'', h3⟩
            · exact .inr ⟨b2, h', by have := hFy.size; omega⟩
          have hy1 : wrap64 (wr (YY : Nat) + wr (bytes K.flat : Nat)) = wr (bytes es + byts ((ks.take (m + 1)).map GT.flat) : Nat) := by
            rw [wr_add2, (lens_succ ks m K hK).2, hYY]
            congr 1
            omega
          have hs1 : ((SS : Nat) : Int) + (K.flat.length : Int) = ((j + lens ((ks.take (m + 1)).map GT.flat) : Nat) : Int) := by rw [(lens_succ ks m K hK).1, hSS]; omega
          by_cases hmj2 : m < j
          · obtain ⟨x0, x1⟩ := entry_cells (by rw [hLe] at ez; exact ez) m (by omega)
            have hPs := pre_succ ks es m K hK (by omega)
            obtain ⟨kk, hkk⟩ : ∃ kk, kk = keyAt es m := ⟨_, rfl⟩
            obtain ⟨vv, hvv⟩ : ∃ vv, vv = valAt es m := ⟨_, rfl⟩
            rw [← hkk] at x0
            rw [← hvv] at x1
            rw [← hkk, ← hvv] at hPs
            obtain ⟨W2, hW2⟩ : ∃ W2, W2 = W1.alloc (.cells #[.string kk, .int .i64 vv] 30) := ⟨_, rfl⟩
            have hF12 : Fr (fun _ => False) W1 W2 := by rw [hW2]; exact (Fr.refl _ _).alloc _
            have o2 : W2.heap[W1.heap.size]? = some (.cells #[.string kk, .int .i64 vv] 30 (0, 0)) := by
              rw [hW2]
              show (W1.heap.push _)[W1.heap.size]? = _
              simp
            obtain ⟨v', W3, hrun, hown, hat, hF23⟩ := appV W2 ov1 _ _ (rowV_fr r1 hF12 (fun _ _ h => h)) ⟨W1.heap.size, 0, none⟩ 1 1 [.string kk, .int .i64 vv] rfl (fun q u hu => by
              rw [addr_add, Nat.zero_add]
              simpa [World.cell?, o2] using hu) (one2 kk vv) (by omega)
            rw [hW2] at hrun
            have HZ := Lib.hid (And.intro hown (And.intro hat (And.intro hF23 (And.intro hF12 (And.intro hPs (And.intro hFz (And.intro oBl1 (And.intro hy1 (And.intro hs1 (And.intro hP r3))))))))))
            clear hP hK oRow oBl hFy by_ ey hSS hYY hb he hk hkl hLe hFL' ho hap htf hlt0 hw1 hw2 hFz bz ez oBl1 hy1 hs1 hPs hkk hvv hW2 hF12 o2 hown hat hF23 r1 r2 r3
            go_wp2_with (at_builtin; refine wpList_append_run _ rfl _ _ 27 27 rfl _ _ rfl rfl hrun ?_)
            go_roundw
            case rel =>
              obtain ⟨hown, hat, hF23, hF12, hPs, hFz, oBl1, hy1, hs1, hP, r3⟩ := HZ.out
              refine ⟨m + 1, pre ks es (m + 1), v', rfl, by go_num, by omega, ?_, ?_, fun _ => rfl, fun h => by omega, ?_, ?_, ?_⟩
              · rw [← hs1]
              · rw [← hy1]
              · have e1 : (out ++ pre ks es (m + 1)).flatMap eCells = ((out ++ P) ++ K.flat).flatMap eCells ++ [.string kk, .int .i64 vv] := by rw [hPs, hP]; simp [eCells]
                have e2 : out.length + (pre ks es (m + 1)).length = (out ++ P).length + K.flat.length + 1 := by rw [hPs, hP]; simp; omega
                rw [e1, e2]
                exact hown
              · rcases hat with h' | h'
                · rcases oBl1 with h'' | ⟨b3, h'', h3⟩
                  · exact .inl (h'.trans h'')
                  · exact .inr ⟨b3, h'.trans h'', h3⟩
                · exact .inr ⟨_, h', by have := hF12.size; have := hFz.size; omega⟩
              · exact (hFz.trans hF12 (fun _ _ h => h.elim)).trans hF23 (fun i hi h => by
                  rcases oBl1 with h' | ⟨b2, h', h2⟩
                  · exact h'.symm.trans h
                  · rw [h'] at h
                    cases h
                    omega)
            case measure => simp [intOf]; omega
          · obtain rfl : m = j := by omega
            have hPe := pre_end ⟨b, eb, kb, gen, es⟩ ks K (by show ks[es.length]? = some K; rw [← hLe]; exact hK) (by show ks.length = es.length + 1; rw [← hLe]; exact hkl)
            have hPe' : FL = P ++ K.flat := by
              rw [hFL', hP]
              have h6 : weave (ks.map GT.flat) es = pre ks es es.length ++ K.flat := hPe
              rw [h6, ← hLe]
            have HZ := Lib.hid (And.intro r1 (And.intro hPe' (And.intro hFz (And.intro oBl1 (And.intro hy1 hs1)))))
            clear hP hK oRow oBl hFy by_ ey hSS hYY hb he hk hkl hLe hFL' ho hap htf hlt0 hw1 hw2 hFz bz ez oBl1 hy1 hs1 r1 r2 r3 hPe hPe'
            go_wp2_with fail
            go_roundw
            case rel =>
              obtain ⟨r1, hPe', hFz, oBl1, hy1, hs1⟩ := HZ.out
              refine ⟨m + 1, FL, ov1, rfl, by go_num, by omega, ?_, ?_, fun h => by omega, fun _ => rfl, ?_, oBl1, hFz⟩
              · rw [← hs1]
              · rw [← hy1]
              · rw [hPe', ← List.append_assoc]
                have e2 : out.length + (P ++ K.flat).length = (out ++ P).length + K.flat.length := by simp; omega
                rw [e2]
                exact r1
            case measure => simp [intOf]
        · obtain rfl : m = j + 1 := by omega
          have hP := (hP2 (by omega)).symm
          subst hP
          have e1 : ks.take (j + 1) = ks := List.take_of_length_le (by omega)
          have d1 : Wy.cell? ⟨b, 1, none⟩ = some (.int .i64 FL.length) := node_cell by_ 1
          have d2 : Wy.cell? ⟨b, 2, none⟩ = some (.int .i64 (wr (bytes FL))) := node_cell by_ 2
          rw [e1] at hSS hYY
          have hSF : FL.length = SS := by omega
          have hYF : bytes FL = YY := by omega
          rw [hSF] at d1
          rw [hYF] at d2
          have HQ := Lib.hid (And.intro oRow (And.intro oBl (And.intro hFy (And.intro hSF (And.intro hYF hFL')))))
          clear hb he hk hkl hLe hFL' ho hap htf hlt0 hw1 hw2 by_ ey ky hP1 hP2 oRow oBl hFy e1 hSS hYY hSF hYF c4y
          go_wp2_with fail
          ((try simp only [Exit.inBlock, Exit.then]); refine bodyPost_ret (results_tmp4 rfl _ _ _) rfl ?_)
          obtain ⟨oRow, oBl, hFy, hSF, hYF, hFL'⟩ := HQ.out
          have hFL2 : (nk ⟨b, eb, kb, gen, es⟩ ks).flat = FL := hFL'.symm
          refine ⟨o, ?_, ?_, oBl, hFy⟩
          · rw [hFL2, hSF, hYF]; rfl
          · rw [hFL2]; exact oRow
end Go.Proofs.Ybulkbrzk.BT
