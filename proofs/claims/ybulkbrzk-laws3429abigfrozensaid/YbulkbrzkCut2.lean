/-
  splitAt at a node with kids.
-/
import Derived.Test.YbulkbrzkCut
namespace Go.Proofs.Ybulkbrzk.BT
open Go Go.RowKit
set_option linter.unusedVariables false

/-- a node's own three blocks are none of its kids' -/
theorem node_out {g N h : Nat} {W : World} {n : Nd} {ks : List (GT h)} (ht : Tree g N W (nk n ks)) (hnd : ((nk n ks).fp g).Nodup) : n.b ∉ ks.flatMap (GT.fp g) ∧ n.eb ∉ ks.flatMap (GT.fp g) ∧ n.kb ∉ ks.flatMap (GT.fp g) := by
  have := lies_not (S := (· ∈ ks.flatMap (GT.fp g))) (fun i hi hm => by
    have := (ht.fp_lt i (List.mem_append.2 (.inr hm))).1
    omega) ht.2.2.1 (fun x hx hm => (List.nodup_append.1 hnd).2.2 x hx x hm rfl)
  exact ⟨this.1, this.2.1, this.2.2 rfl⟩

theorem ptrs_at {h : Nat} (ks : List (GT h)) (j : Nat) (k : GT h) (hk : ks[j]? = some k) : (ptrs (ks.map fun k => k.nd.b))[j]? = some (.pointer (some ⟨k.nd.b, 0, none⟩)) := by simp [ptrs, hk]

theorem fore_weave : ∀ (A : List (List E)) (P : List E) (e : E), A.length = P.length + 1 → fore A (P ++ [e]) = weave A P ++ [e]
  | [], _, _, h => by simp at h
  | [a], [], e, _ => by simp [fore, weave]
  | a :: b :: A, [], e, h => by simp at h
  | a :: A, p :: P, e, h => by
    have := fore_weave A P e (by simpa using h)
    simp [fore, weave, this]

set_option maxRecDepth 100000 in
set_option maxHeartbeats 16000000 in
theorem cut_inner {h : Nat} (tb g N : Nat) (t : GT (h + 1)) (key : ByteArray) (w : World) (hh : 2 * h + 2 ≤ 4000) (hg : w.cell? ⟨tb, 1, none⟩ = some (.int .u64 g)) (htb : tb ∉ t.fp g) (hN : N ≤ w.heap.size) (ht : Tree g N w t) (hnd : (t.fp g).Nodup) (hl : t.flat.length ≤ 4000) (hS : Sorted t.flat)
    (ih : ∀ (K : GT h) (W : World), W.cell? ⟨tb, 1, none⟩ = some (.int .u64 g) → tb ∉ K.fp g → N ≤ W.heap.size → Tree g N W K → (K.fp g).Nodup → K.flat.length ≤ 4000 → Sorted K.flat → Calls Yba.prog 12 #[.pointer (some ⟨tb, 0, none⟩), .pointer (some ⟨K.nd.b, 0, none⟩), .string key] W (CutPost g N (2 * h) key (K.fp g) K.flat W)) :
    Calls Yba.prog 12 #[.pointer (some ⟨tb, 0, none⟩), .pointer (some ⟨t.nd.b, 0, none⟩), .string key] w (CutPost g N (2 * h + 2) key (t.fp g) t.flat w) := by
  have htbl : tb < w.heap.size := World.block_lt_of_cell? _ _ hg
  have hltk : ∀ x, x ∈ t.2.flatMap (GT.fp g) → x < w.heap.size := fun x hx => (ht.fp_lt x (List.mem_append.2 (.inr hx))).2
  have hndk : (t.2.flatMap (GT.fp g)).Nodup := (List.nodup_append.1 hnd).2.1
  have htbk : tb ∉ t.2.flatMap (GT.fp g) := fun hx => htb (List.mem_append.2 (.inr hx))
  obtain ⟨⟨b, eb, kb, gen, es⟩, ks⟩ := t
  have hout := node_out (n := ⟨b, eb, kb, gen, es⟩) ht hnd
  change b ∉ ks.flatMap (GT.fp g) ∧ eb ∉ ks.flatMap (GT.fp g) ∧ kb ∉ ks.flatMap (GT.fp g) at hout
  obtain ⟨cap, kv, hb, he, kcap, hkv, hk⟩ := ht.1
  have hkl : ks.length = es.length + 1 := ht.2.1
  rw [List.length_map] at hkv hk
  change kv = .slice (some ⟨kb, 0, none⟩) ks.length kcap at hkv
  subst hkv
  change w.heap[b]? = some (nodeObj gen (nk ⟨b, eb, kb, gen, es⟩ ks).flat.length (wr (bytes (nk ⟨b, eb, kb, gen, es⟩ ks).flat)) (.slice (some ⟨eb, 0, none⟩) es.length cap) (.slice (some ⟨kb, 0, none⟩) ks.length kcap)) at hb
  change w.ownsRow 0 30 2 (.slice (some ⟨eb, 0, none⟩) es.length cap) es.length (es.flatMap eCells) at he
  change w.ownsRow 0 23 1 (.slice (some ⟨kb, 0, none⟩) ks.length kcap) ks.length (ptrs (ks.map fun k => k.nd.b)) at hk
  change (nk ⟨b, eb, kb, gen, es⟩ ks).flat.length ≤ 4000 at hl
  have hes : Sorted es := Sorted.es hS
  have hwl := weave_length (ks.map GT.flat) es (by rw [List.length_map]; exact hkl)
  change (nk ⟨b, eb, kb, gen, es⟩ ks).flat.length = _ at hwl
  have hsr := search_in b gen eb cap _ _ _ es key w hb he (by omega) hes
  have hbl := (Array.getElem?_eq_some_iff.1 hb).1
  have hcap := (row_open he).1
  have hkcap := (row_open hk).1
  rw [hkl] at hb hk hkcap
  obtain ⟨Le, hLe⟩ : ∃ Le, Le = es.length := ⟨_, rfl⟩
  rw [← hLe] at hcap hkcap hb he hk hkl hwl
  have hLl : Le ≤ 4000 := by omega
  have hpn := fun W a => ptr_some W a
  have H0 := Lib.hid (And.intro hb (And.intro he (And.intro hk (And.intro hkl (And.intro hLe (And.intro hg (And.intro htbk (And.intro ht (And.intro hltk (And.intro hndk (And.intro hl (And.intro hS hout))))))))))))
  have Hih := Lib.hid ih
  clear hb he hk hkl hLe hg htb htbk ht hltk hndk hnd hl hS hout hes hwl ih
  show Calls Yba.prog 12 #[.pointer (some ⟨tb, 0, none⟩), .pointer (some ⟨b, 0, none⟩), .string key] w _
  go_enter Yba.func12, Yba.ntmps12
  go_upto_region 4 with (go_at_call 30; refine hsr.mono ?_; rintro e w1 ⟨i, f, q, rfl, rfl, hpl⟩)
  clear hsr
  obtain ⟨W1, hW1⟩ : ∃ W1, W1 = w.drewN q := ⟨_, rfl⟩
  rw [← hW1]
  have hF1 : Fr (fun _ => False) w W1 := by rw [hW1]; exact (Fr.refl _ _).drewN _
  clear hW1
  obtain ⟨hb, he, hk, hkl, hLe, hg, htbk, ht, hltk, hndk, hl, hS, hout⟩ := H0.out
  obtain ⟨A, K, B, hks, hAl⟩ := split_kids ks i (by have := hpl.le; omega)
  subst hks
  have hi : i ≤ Le := by rw [hLe]; exact hpl.le
  have b1 := (hF1.block b hbl (fun h => h)).trans hb
  have c4 : W1.cell? ⟨b, 4, none⟩ = some (.slice (some ⟨kb, 0, none⟩) (Le + 1) kcap) := node_cell b1 4
  have k1 := row_fr hk hF1 (fun h => h)
  have ckm : W1.cell? ⟨kb, i, none⟩ = some (.pointer (some ⟨K.nd.b, 0, none⟩)) := by
    rw [row_cell k1 i (by omega), ← hAl]
    simp [ptrs]
  have hkn := kids_some' W1 ⟨kb, 0, none⟩ (Le + 1) kcap
  have hTK : Tree g N W1 K := (ht.2.2.2.2 K (by show K ∈ A ++ K :: B; simp)).still hF1
  have hKs : ∀ x, x ∈ K.fp g → x ∈ (A ++ K :: B).flatMap (GT.fp g) := fun x hx => List.mem_flatMap.2 ⟨K, by simp, hx⟩
  have hff := focus_flat (n := ⟨b, eb, kb, gen, es⟩) (A := A) (K := K) (B := B) (by show (A ++ K :: B).length = es.length + 1; rw [← hLe]; exact hkl)
  have hSf := hS
  change Sorted (nk ⟨b, eb, kb, gen, es⟩ (A ++ K :: B)).flat at hSf
  rw [hff] at hSf
  have hKl : K.flat.length ≤ 4000 := by
    rw [hff] at hl
    simp only [List.length_append] at hl
    omega
  have hndK : (K.fp g).Nodup := by
    rw [List.flatMap_append, List.flatMap_cons] at hndk
    exact (List.nodup_append.1 (List.nodup_append.1 hndk).2.1).1
  have hg1 : W1.cell? ⟨tb, 1, none⟩ = some (.int .u64 g) := (hF1.cell (p := ⟨tb, 1, none⟩) htbl (fun h => h)).trans hg
  have hz1 := hF1.size
  have hrec := Hih.out K W1 hg1 (fun hx => htbk (hKs tb hx)) (by omega) hTK hndK hKl hSf.right.left
  have hKlt : f = true → ∀ x, x ∈ K.flat → Lt x.1 key := fun hf x hx => by
    obtain ⟨q1, q2⟩ := hpl.hit hf
    have hxa : es.drop A.length = (keyAt es A.length, valAt es A.length) :: es.drop (A.length + 1) := by rw [val_get (by omega)]; exact List.drop_eq_getElem_cons (by omega)
    have hBne : ∃ K2 B2, B = K2 :: B2 := by
      cases B with
      | nil =>
        have : (A ++ [K]).length = Le + 1 := hkl
        simp at this
        omega
      | cons K2 B2 => exact ⟨K2, B2, rfl⟩
    obtain ⟨K2, B2, rfl⟩ := hBne
    rw [hxa] at hSf
    have := hSf.right.cross hx (y := (keyAt es A.length, valAt es A.length)) (by simp [aft])
    rw [hAl, q2] at this
    exact this
  have H1 := Lib.hid (And.intro hpl (And.intro hAl (And.intro b1 (And.intro k1 (And.intro hTK (And.intro hKs (And.intro hff (And.intro hSf (And.intro hndK (And.intro hg1 hKlt))))))))))
  have hiI : (0 : Int) ≤ (i : Int) := by omega
  clear hb he hk hkl hLe hg htbk ht hltk hndk hl hS hout hpl hAl b1 k1 hTK hKs hff hSf hKl hndK hg1
  go_upto_if 49 with fail
  go_cut [10, 11] (fun a1 a2 wx => ∃ lo up : Root, a1 = .pointer lo.pa ∧ a2 = .pointer up.pa ∧ lo.height ≤ 2 * h ∧ up.height ≤ 2 * h ∧ K.flat = lo.flat ++ up.flat ∧ (∀ x, x ∈ lo.flat → Lt x.1 key) ∧ (∀ x, x ∈ up.flat → ¬ Lt x.1 key) ∧ RTree g N wx lo ∧ RTree g N wx up ∧ Grow (K.fp g) W1 wx (lo.fp g ++ up.fp g))
  case first =>
    cases f with
    | true =>
      have HK2 := Lib.hid (hKlt rfl)
      clear hKlt
      go_wp2_with fail
      go_meet
      case rel =>
        refine ⟨some ⟨h, K⟩, none, rfl, rfl, by show h ≤ 2 * h; omega, Nat.zero_le _, by simp [Root.flat], HK2.out, fun x hx => by simp [Root.flat] at hx, H1.out.2.2.2.2.1, trivial, ?_⟩
        show Grow (K.fp g) W1 W1 (K.fp g ++ [])
        rw [List.append_nil]
        exact Grow.still (Fr.refl _ _) (fun x hx => (H1.out.2.2.2.2.1.fp_lt x hx).2) H1.out.2.2.2.2.2.2.2.2.1
    | false =>
      go_wp2_with (go_at_call 12; refine hrec.mono ?_; rintro e W2 ⟨lo, up, rfl, r1, r2, r3, r4, r5, r6, r7, r8⟩)
      go_meet
      case rel => exact ⟨lo, up, rfl, rfl, r1, r2, r3, r4, r5, r6, r7, r8⟩
  case rest =>
    obtain ⟨lo, up, rfl, rfl, r1, r2, r3, r4, r5, r6, r7, r8⟩ := hcut
    rename World => W2
    clear hrec ckm c4 hkn hKlt
    obtain ⟨hb, he, hk, hkl, hLe, hg, htbk, ht, hltk, hndk, hl, hS, hout⟩ := H0.out
    obtain ⟨hpl, hAl, b1, k1, hTK, hKs, hff, hSf, hndK, hg1, _⟩ := H1.out
    have hfmap : (A ++ K :: B).flatMap (GT.fp g) = A.flatMap (GT.fp g) ++ K.fp g ++ B.flatMap (GT.fp g) := by rw [List.flatMap_append, List.flatMap_cons, List.append_assoc]
    have g2 : Grow ((A ++ K :: B).flatMap (GT.fp g)) w W2 (A.flatMap (GT.fp g) ++ (lo.fp g ++ up.fp g) ++ B.flatMap (GT.fp g)) := by
      refine (Grow.still hF1 hltk hndk).trans ?_
      rw [hfmap] at hndk hltk ⊢
      exact r8.ctx hndk (fun x hx => by
        have hx' : x ∈ A.flatMap (GT.fp g) ++ K.fp g ++ B.flatMap (GT.fp g) := by
          rcases hx with hx | hx
          · exact List.mem_append.2 (.inl (List.mem_append.2 (.inl hx)))
          · exact List.mem_append.2 (.inr hx)
        have := hltk x hx'
        omega)
    have hz2 := g2.fr.size
    have b2 := (g2.fr.block b hbl hout.1).trans hb
    have e2 := row_fr he g2.fr hout.2.1
    have k2 := row_fr hk g2.fr hout.2.2
    have hg2 : W2.cell? ⟨tb, 1, none⟩ = some (.int .u64 g) := (g2.fr.cell (p := ⟨tb, 1, none⟩) htbl htbk).trans hg
    have hAT : ∀ k, k ∈ A ∨ k ∈ B → Tree g N W2 k := fun k hk' => by
      refine ((ht.2.2.2.2 k (by show k ∈ A ++ K :: B; rcases hk' with h' | h' <;> simp [h'])).still hF1).fr r8.fr (fun j hj hm => by have := (hTK.fp_lt j hm).1; omega) (fun x hx hm => ?_)
      rw [List.flatMap_append, List.flatMap_cons] at hndk
      rcases hk' with h' | h'
      · exact (List.nodup_append.1 hndk).2.2 x (List.mem_flatMap.2 ⟨k, h', hx⟩) x (List.mem_append.2 (.inl hm)) rfl
      · exact (List.nodup_append.1 (List.nodup_append.1 hndk).2.1).2.2 x hm x (List.mem_flatMap.2 ⟨k, h', hx⟩) rfl
    have c3 : W2.cell? ⟨b, 3, none⟩ = some (.slice (some ⟨eb, 0, none⟩) Le cap) := node_cell b2 3
    have c4 : W2.cell? ⟨b, 4, none⟩ = some (.slice (some ⟨kb, 0, none⟩) (Le + 1) kcap) := node_cell b2 4
    have hrow : ∀ (Wz : World), Fr (fun _ => False) W2 Wz → (∀ j u, (es.flatMap eCells)[j]? = some u → Wz.cell? ⟨eb, j, none⟩ = some u) ∧ (∀ j u, (ptrs ((A ++ K :: B).map fun k => k.nd.b))[j]? = some u → Wz.cell? ⟨kb, j, none⟩ = some u) := fun Wz hz => by
      refine ⟨fun j u hu => ?_, fun j u hu => ?_⟩
      · have := row_add (row_fr e2 hz (fun h => h)) j u hu
        rw [addr_add, Nat.zero_add] at this
        exact this
      · have := row_add (row_fr k2 hz (fun h => h)) j u hu
        rw [addr_add, Nat.zero_add] at this
        exact this
    have hAe : A.length ≤ es.length := by omega
    have hBl : B.length = Le - A.length := by simp at hkl; omega
    have bl2 := (Array.getElem?_eq_some_iff.1 b2).1
    have ebl2 := (e2.lt eb rfl).2
    have tbl2 : tb < W2.heap.size := by omega
    have H2 := Lib.hid (And.intro g2 (And.intro b2 (And.intro e2 (And.intro k2 (And.intro hg2 (And.intro hAT (And.intro hrow (And.intro hAe (And.intro hBl (And.intro hfmap (And.intro r3 (And.intro r4 (And.intro r5 (And.intro r6 (And.intro r7 (And.intro r1 r2))))))))))))))))
    clear hb he hk hkl hLe hg htbk ht hltk hndk hl hS hout hpl hAl b1 k1 hTK hKs hff hSf hndK hg1 hfmap g2 b2 e2 k2 hg2 hAT hrow hAe hBl r1 r2 r3 r4 r5 r6 r7 r8
    go_upto_if 66 with fail
    go_cut [6] (fun a1 wx => ∃ lo2 : Root, a1 = .pointer lo2.pa ∧ lo2.height ≤ 2 * h + 2 ∧ lo2.flat = fore (A.map GT.flat) (es.take A.length) ++ lo.flat ∧ RTree g N wx lo2 ∧ Grow (A.flatMap (GT.fp g) ++ lo.fp g) W2 wx (lo2.fp g))
    case first =>
      cases i with
      | zero =>
        go_wp2_with fail
        go_meet
        case rel =>
          obtain ⟨g2, b2, e2, k2, hg2, hAT, hrow, hAe, hBl, hfmap, r3, r4, r5, r6, r7, r1, r2⟩ := H2.out
          have hA0 : A = [] := List.eq_nil_of_length_eq_zero H1.out.2.1
          subst hA0
          have hle : ∀ x, x ∈ lo.fp g → x < W2.heap.size := fun x hx => g2.lt x (by simp [hx])
          have hnl : (lo.fp g).Nodup := by
            have := g2.nd
            simp only [List.flatMap_nil, List.nil_append] at this
            exact (List.nodup_append.1 (List.nodup_append.1 this).1).1
          exact ⟨lo, rfl, by omega, by simp [fore], r6, by simpa using Grow.still (Fr.refl _ W2) hle hnl⟩
      | succ m =>
        obtain ⟨hb, he, hk, hkl, hLe, hg, htbk, ht, hltk, hndk, hl, hS, hout⟩ := H0.out
        obtain ⟨hpl, hAl, b1, k1, hTK, hKs, hff, hSf, hndK, hg1, _⟩ := H1.out
        obtain ⟨g2, b2, e2, k2, hg2, hAT, hrow, hAe, hBl, hfmap, r3, r4, r5, r6, r7, r1, r2⟩ := H2.out
        obtain ⟨x0, x1⟩ := entry_cells (by rw [hLe] at e2; exact e2) m (by omega)
        have hsp : es.take A.length = es.take m ++ [(keyAt es m, valAt es m)] := by rw [hAl, List.take_add_one, List.getElem?_eq_getElem (by omega), val_get (by omega)]; rfl
        obtain ⟨kk, hkk⟩ : ∃ kk, kk = keyAt es m := ⟨_, rfl⟩
        obtain ⟨vv, hvv⟩ : ∃ vv, vv = valAt es m := ⟨_, rfl⟩
        rw [← hkk] at x0
        rw [← hvv] at x1
        rw [← hkk, ← hvv] at hsp
        have htl : (es.take m).length = m := by rw [List.length_take]; omega
        have hfw : fore (A.map GT.flat) (es.take A.length) = weave (A.map GT.flat) (es.take m) ++ [(kk, vv)] := by rw [hsp, fore_weave _ _ _ (by rw [List.length_map, htl, hAl])]
        have hflen : (fore (A.map GT.flat) (es.take A.length) ++ (K.flat ++ aft (es.drop A.length) (B.map GT.flat))).length ≤ 4000 := by
          have := hl
          change (nk ⟨b, eb, kb, gen, es⟩ (A ++ K :: B)).flat.length ≤ 4000 at this
          rw [hff] at this
          exact this
        rw [hfw] at hflen
        simp only [List.length_append, List.length_singleton] at hflen
        have hr3l : K.flat.length = lo.flat.length + up.flat.length := by rw [r3, List.length_append]
        have hndA : (A.flatMap (GT.fp g)).Nodup := (List.nodup_append.1 (List.nodup_append.1 g2.nd).1).1
        have hndAl : (A.flatMap (GT.fp g) ++ lo.fp g).Nodup := by
          have q := (List.nodup_append.1 g2.nd).1
          rw [← List.append_assoc] at q
          exact (List.nodup_append.1 q).1
        have hltAl : ∀ x, x ∈ A.flatMap (GT.fp g) ++ lo.fp g → x < W2.heap.size := fun x hx => g2.lt x (by
          rcases List.mem_append.1 hx with hx | hx
          · exact List.mem_append.2 (.inl (List.mem_append.2 (.inl hx)))
          · exact List.mem_append.2 (.inl (List.mem_append.2 (.inr (List.mem_append.2 (.inl hx))))))
        have hoAl : ∀ x, x < w.heap.size → x ∉ (A ++ K :: B).flatMap (GT.fp g) → x ∉ A.flatMap (GT.fp g) ++ lo.fp g := fun x hx hxn hm => (g2.out hxn hx).1 (by
          rcases List.mem_append.1 hm with hm | hm
          · exact List.mem_append.2 (.inl (List.mem_append.2 (.inl hm)))
          · exact List.mem_append.2 (.inl (List.mem_append.2 (.inr (List.mem_append.2 (.inl hm))))))
        have hn1 := fun (Wz : World) (hz : Fr (fun _ => False) W2 Wz) => part_kids tb g N eb 0 cap kb 0 kcap (some ⟨eb, 0, none⟩) (es.take m) A Wz ((hz.cell (p := ⟨tb, 1, none⟩) tbl2 (fun h => h)).trans hg2) (by have := hz.size; omega) (fun _ => rfl) (fun j u hu => by
          rw [Nat.zero_add]
          refine (hrow Wz hz).1 j u ?_
          rw [take_flat, List.getElem?_take] at hu
          split at hu
          · exact hu
          · cases hu) (by rw [htl, hAl]) (fun j kj hkj => by
          refine ⟨?_, (hAT kj (.inl (List.mem_of_getElem? hkj))).still hz⟩
          rw [Nat.zero_add]
          refine (hrow Wz hz).2 j _ ?_
          have hjA : j < A.length := (List.getElem?_eq_some_iff.1 hkj).1
          exact ptrs_at (A ++ K :: B) j kj (by rw [List.getElem?_append_left hjA]; exact hkj)) hndA (by omega)
        rw [htl, hAl] at hn1
        have hj := fun (wA : World) (rA : Root) (a1 : rA.height ≤ h + 1) (a2 : rA.flat = weave (A.map GT.flat) (es.take m)) (a3 : RTree g N wA rA) (a4 : Grow (A.flatMap (GT.fp g)) W2.drew wA (rA.fp g)) (a5 : Fr (fun _ => False) W2.drew wA) => by
          have hFd : Fr (fun _ => False) W2 wA := (Fr.refl _ W2).drew.trans a5 (fun _ _ h => h)
          have gA : Grow (A.flatMap (GT.fp g) ++ lo.fp g) W2 wA (rA.fp g ++ lo.fp g) := by
            refine (Grow.still (Fr.refl _ W2).drew hltAl hndAl).trans ?_
            have q := Grow.ctx (X := []) (Y := lo.fp g) a4 (by simpa using hndAl) (fun x hx => by
              rcases hx with hx | hx
              · cases hx
              · exact hltAl x (List.mem_append.2 (.inr hx)))
            simpa using q
          have hSub : Sorted (rA.flat ++ (kk, vv) :: lo.flat) := by
            rw [a2]
            have q : Sorted (weave (A.map GT.flat) (es.take m) ++ [(kk, vv)] ++ ((lo.flat ++ up.flat) ++ aft (es.drop A.length) (B.map GT.flat))) := by rw [← hfw, ← r3]; exact hSf
            have q2 : Sorted ((weave (A.map GT.flat) (es.take m) ++ (kk, vv) :: lo.flat) ++ (up.flat ++ aft (es.drop A.length) (B.map GT.flat))) := by simpa [List.append_assoc] using q
            exact q2.left
          exact join_root tb g N rA lo kk vv wA (by omega) (by omega) ((hFd.cell (p := ⟨tb, 1, none⟩) tbl2 (fun h => h)).trans hg2) (gA.out (hoAl tb htbl htbk) tbl2).1 (by have := hFd.size; omega) a3 (r6.still hFd) gA.nd (by rw [a2, List.length_append, List.length_cons]; omega) hSub
        have hgA := fun (wA : World) (rA : Root) (a4 : Grow (A.flatMap (GT.fp g)) W2.drew wA (rA.fp g)) => (show Grow (A.flatMap (GT.fp g) ++ lo.fp g) W2 wA (rA.fp g ++ lo.fp g) by
            refine (Grow.still (Fr.refl _ W2).drew hltAl hndAl).trans ?_
            have q := Grow.ctx (X := []) (Y := lo.fp g) a4 (by simpa using hndAl) (fun x hx => by
              rcases hx with hx | hx
              · cases hx
              · exact hltAl x (List.mem_append.2 (.inr hx)))
            simpa using q)
        have HG := Lib.hid (And.intro hgA (And.intro hfw (And.intro (hoAl b hbl hout.1) (And.intro (hoAl eb (he.lt eb rfl).2 hout.2.1) (And.intro r1 r2)))))
        have hI2 : (m : Int) ≤ (Le : Int) := by omega
        have hI3 : (Le : Int) ≤ (cap : Int) := by omega
        have hI4 : (m : Int) + 1 ≤ (Le : Int) + 1 := by omega
        have hI5 : (m : Int) ≤ (cap : Int) := by omega
        have hI6 : (m : Int) + 1 ≤ (kcap : Int) := by omega
        have hI7 : (0 : Int) ≤ (m : Int) := by omega
        have hI8 : (m : Int) < (Le : Int) := by omega
        have hI9 : (0 : Int) ≤ (m : Int) + 1 := by omega
        have hwr : IntKind.i64.wrap (m : Int) = (m : Int) := by rw [IntKind.wrap_i64]; omega
        clear hb he hk hkl hLe hg htbk ht hltk hndk hl hS hout hpl hAl b1 k1 hTK hKs hff hSf hndK hg1 g2 b2 e2 k2 hg2 hAT hrow hAe hBl hfmap r1 r2 r3 r4 r5 r6 r7 hsp hkk hvv htl hfw hflen hr3l hndA hndAl hltAl hoAl hgA
        go_upto_region 11 with fail
        go_region_held3 (fun w' => w'.cell? ⟨b, 3, none⟩ = some (.slice (some ⟨eb, 0, none⟩) Le cap) ∧ w'.cell? ⟨b, 4, none⟩ = some (.slice (some ⟨kb, 0, none⟩) (Le + 1) kcap) ∧ w'.cell? ⟨eb, m * 2, none⟩ = some (.string kk) ∧ w'.cell? ⟨eb, m * 2 + 1, none⟩ = some (.int .i64 vv)) (go_keep)
          (first
          | (go_at_call 31; (with_reducible refine (hn1 W2.drew (Fr.refl _ W2).drew).mono ?_); rintro e wA ⟨rA, rfl, a1, a2, a3, a4, a5⟩; have y0 := (a5.cell (p := ⟨b, 3, none⟩) bl2 (fun h => h)).trans c3; have y1 := (a5.cell (p := ⟨b, 4, none⟩) bl2 (fun h => h)).trans c4; have y2 := (a5.cell (p := ⟨eb, m * 2, none⟩) ebl2 (fun h => h)).trans x0; have y3 := (a5.cell (p := ⟨eb, m * 2 + 1, none⟩) ebl2 (fun h => h)).trans x1)
          | (go_at_call 32; (with_reducible refine (hj wA rA a1 a2 a3 a4 a5).mono ?_); rintro e wB ⟨hB, T, rfl, t1, t2, t3, t4⟩; have hgo := (HG.out.1 wA rA a4).trans t4; have z0 := (hgo.fr.cell (p := ⟨b, 3, none⟩) bl2 HG.out.2.2.1).trans c3; have z1 := (hgo.fr.cell (p := ⟨b, 4, none⟩) bl2 HG.out.2.2.1).trans c4; have z2 := (hgo.fr.cell (p := ⟨eb, m * 2, none⟩) ebl2 HG.out.2.2.2.1).trans x0; have z3 := (hgo.fr.cell (p := ⟨eb, m * 2 + 1, none⟩) ebl2 HG.out.2.2.2.1).trans x1; unfold GT.ptr))
        all_goals go_wp2_with fail
        all_goals go_meet
        all_goals
          case rel =>
            obtain ⟨hgA, hfw, _, _, r1, r2⟩ := HG.out
            refine ⟨some ⟨hB, T⟩, rfl, ?_, ?_, t3, (hgA wA rA a4).trans t4⟩
            · show hB ≤ 2 * h + 2
              have : max rA.height lo.height + 1 ≤ 2 * h + 2 := by omega
              omega
            · show T.flat = _
              rw [t2, a2, hfw]
              simp
    case rest =>
      obtain ⟨lo2, rfl, l1, l2, l3, l4⟩ := hcut
      rename World => W3
      clear c3 c4 bl2 ebl2
      obtain ⟨hb, he, hk, hkl, hLe, hg, htbk, ht, hltk, hndk, hl, hS, hout⟩ := H0.out
      obtain ⟨hpl, hAl, b1, k1, hTK, hKs, hff, hSf, hndK, hg1, _⟩ := H1.out
      obtain ⟨g2, b2, e2, k2, hg2, hAT, hrow, hAe, hBl, hfmap, r3, r4, r5, r6, r7, r1, r2⟩ := H2.out
      have hass : A.flatMap (GT.fp g) ++ (lo.fp g ++ up.fp g) ++ B.flatMap (GT.fp g) = (A.flatMap (GT.fp g) ++ lo.fp g) ++ (up.fp g ++ B.flatMap (GT.fp g)) := by simp [List.append_assoc]
      rw [hass] at g2
      have hcr := (List.nodup_append.1 g2.nd).2.2
      have g3 : Grow ((A ++ K :: B).flatMap (GT.fp g)) w W3 (lo2.fp g ++ (up.fp g ++ B.flatMap (GT.fp g))) := by
        refine g2.trans ?_
        have q := Grow.ctx (X := []) (Y := up.fp g ++ B.flatMap (GT.fp g)) l4 (by simpa using g2.nd) (fun x hx => by
          rcases hx with hx | hx
          · cases hx
          · exact g2.lt x (List.mem_append.2 (.inr hx)))
        simpa using q
      have hz3 := g3.fr.size
      have b3 := (g3.fr.block b hbl hout.1).trans hb
      have e3 := row_fr he g3.fr hout.2.1
      have k3 := row_fr hk g3.fr hout.2.2
      have hg3 : W3.cell? ⟨tb, 1, none⟩ = some (.int .u64 g) := (g3.fr.cell (p := ⟨tb, 1, none⟩) htbl htbk).trans hg
      have hNl : ∀ j, j < N → ¬ j ∈ A.flatMap (GT.fp g) ++ lo.fp g := fun j hj hm => by
        rcases List.mem_append.1 hm with hm | hm
        · obtain ⟨k', hk', hx⟩ := List.mem_flatMap.1 hm
          have := ((hAT k' (.inl hk')).fp_lt j hx).1
          omega
        · have := (r6.fp_lt j hm).1
          omega
      have hBT : ∀ k, k ∈ B → Tree g N W3 k := fun k hk' => (hAT k (.inr hk')).fr l4.fr hNl (fun x hx hm => hcr x hm x (List.mem_append.2 (.inr (List.mem_flatMap.2 ⟨k, hk', hx⟩))) rfl)
      have hup : RTree g N W3 up := r7.fr l4.fr hNl (fun x hx hm => hcr x hm x (List.mem_append.2 (.inl hx)) rfl)
      have c3 : W3.cell? ⟨b, 3, none⟩ = some (.slice (some ⟨eb, 0, none⟩) Le cap) := node_cell b3 3
      have c4 : W3.cell? ⟨b, 4, none⟩ = some (.slice (some ⟨kb, 0, none⟩) (Le + 1) kcap) := node_cell b3 4
      have bl3 := (Array.getElem?_eq_some_iff.1 b3).1
      have ebl3 := (e3.lt eb rfl).2
      have tbl3 : tb < W3.heap.size := by omega
      have H3 := Lib.hid (And.intro g3 (And.intro b3 (And.intro e3 (And.intro k3 (And.intro hg3 (And.intro hBT (And.intro hup (And.intro l1 (And.intro l2 (And.intro l3 l4))))))))))
      clear hb he hk hkl hLe hg htbk ht hltk hndk hl hS hout hpl hAl b1 k1 hTK hKs hff hSf hndK hg1 g2 b2 e2 k2 hg2 hAT hrow hAe hBl hfmap r1 r2 r3 r4 r5 r6 r7 hass hcr g3 b3 e3 k3 hg3 hNl hBT hup l1 l2 l3 l4
      go_upto_if 99 with fail
      go_cut [7] (fun a1 wx => ∃ up2 : Root, a1 = .pointer up2.pa ∧ up2.height ≤ 2 * h + 2 ∧ up2.flat = up.flat ++ aft (es.drop A.length) (B.map GT.flat) ∧ RTree g N wx up2 ∧ Grow (up.fp g ++ B.flatMap (GT.fp g)) W3 wx (up2.fp g))
      case first =>
        obtain ⟨hb, he, hk, hkl, hLe, hg, htbk, ht, hltk, hndk, hl, hS, hout⟩ := H0.out
        obtain ⟨hpl, hAl, b1, k1, hTK, hKs, hff, hSf, hndK, hg1, _⟩ := H1.out
        obtain ⟨g2, b2, e2, k2, hg2, hAT, hrow, hAe, hBl, hfmap, r3, r4, r5, r6, r7, r1, r2⟩ := H2.out
        obtain ⟨g3, b3, e3, k3, hg3, hBT, hup, l1, l2, l3, l4⟩ := H3.out
        have hndUB : (up.fp g ++ B.flatMap (GT.fp g)).Nodup := (List.nodup_append.1 g3.nd).2.1
        have hltUB : ∀ x, x ∈ up.fp g ++ B.flatMap (GT.fp g) → x < W3.heap.size := fun x hx => g3.lt x (List.mem_append.2 (.inr hx))
        by_cases hil : i < Le
        · obtain ⟨x0, x1⟩ := entry_cells (by rw [hLe] at e3; exact e3) i (by omega)
          have hdr : es.drop A.length = (keyAt es i, valAt es i) :: es.drop (i + 1) := by rw [hAl, val_get (by omega)]; exact List.drop_eq_getElem_cons (by omega)
          obtain ⟨kk, hkk⟩ : ∃ kk, kk = keyAt es i := ⟨_, rfl⟩
          obtain ⟨vv, hvv⟩ : ∃ vv, vv = valAt es i := ⟨_, rfl⟩
          rw [← hkk] at x0
          rw [← hvv] at x1
          rw [← hkk, ← hvv] at hdr
          have hdl : (es.drop (i + 1)).length = Le - (i + 1) := by rw [List.length_drop, hLe]
          have hBl2 : B.length = Le - i := by omega
          have hBw : B.length = (es.drop (i + 1)).length + 1 := by omega
          have hfw : up.flat ++ aft (es.drop A.length) (B.map GT.flat) = up.flat ++ (kk, vv) :: weave (B.map GT.flat) (es.drop (i + 1)) := by
            rw [hdr]
            cases B with
            | nil => simp at hBw
            | cons B0 B1 =>
              rw [List.map_cons, weave_aft _ _ _ (by rw [List.length_map]; simp at hBw; omega)]
              simp [aft]
          have hflen : (fore (A.map GT.flat) (es.take A.length) ++ (K.flat ++ aft (es.drop A.length) (B.map GT.flat))).length ≤ 4000 := by
            have := hl
            change (nk ⟨b, eb, kb, gen, es⟩ (A ++ K :: B)).flat.length ≤ 4000 at this
            rw [hff] at this
            exact this
          have hflen2 : (up.flat ++ (kk, vv) :: weave (B.map GT.flat) (es.drop (i + 1))).length ≤ 4000 := by
            rw [← hfw]
            rw [r3] at hflen
            simp only [List.length_append] at hflen ⊢
            omega
          have hSub0 : Sorted (up.flat ++ (kk, vv) :: weave (B.map GT.flat) (es.drop (i + 1))) := by
            rw [← hfw]
            have q : Sorted (fore (A.map GT.flat) (es.take A.length) ++ ((lo.flat ++ up.flat) ++ aft (es.drop A.length) (B.map GT.flat))) := by rw [← r3]; exact hSf
            have q2 : Sorted ((fore (A.map GT.flat) (es.take A.length) ++ lo.flat) ++ (up.flat ++ aft (es.drop A.length) (B.map GT.flat))) := by simpa [List.append_assoc] using q
            exact q2.right
          have hrow3 : ∀ (Wz : World), Fr (fun _ => False) W3 Wz → (∀ j u, (es.flatMap eCells)[j]? = some u → Wz.cell? ⟨eb, j, none⟩ = some u) ∧ (∀ j u, (ptrs ((A ++ K :: B).map fun k => k.nd.b))[j]? = some u → Wz.cell? ⟨kb, j, none⟩ = some u) := fun Wz hz => by
            refine ⟨fun j u hu => ?_, fun j u hu => ?_⟩
            · have := row_add (row_fr e3 hz (fun h => h)) j u hu
              rw [addr_add, Nat.zero_add] at this
              exact this
            · have := row_add (row_fr k3 hz (fun h => h)) j u hu
              rw [addr_add, Nat.zero_add] at this
              exact this
          have hoUB : ∀ x, x < w.heap.size → x ∉ (A ++ K :: B).flatMap (GT.fp g) → x ∉ up.fp g ++ B.flatMap (GT.fp g) := fun x hx hxn hm => (g3.out hxn hx).1 (List.mem_append.2 (.inr hm))
          have hn2 := fun (Wz : World) (hz : Fr (fun _ => False) W3 Wz) (a : Option Addr) (cap' : Nat) (ha : es.drop (i + 1) ≠ [] → a = some ⟨eb, (i + 1) * 2, none⟩) => part_kids tb g N eb ((i + 1) * 2) cap' kb (i + 1) (kcap - (i + 1)) a (es.drop (i + 1)) B Wz ((hz.cell (p := ⟨tb, 1, none⟩) tbl3 (fun h => h)).trans hg3) (by have := hz.size; omega) ha (fun j u hu => by
            refine (hrow3 Wz hz).1 _ u ?_
            rw [drop_flat, List.getElem?_drop] at hu
            exact hu) hBw (fun j kj hkj => by
            refine ⟨?_, (hBT kj (List.mem_of_getElem? hkj)).still hz⟩
            refine (hrow3 Wz hz).2 _ _ ?_
            exact ptrs_at (A ++ K :: B) (i + 1 + j) kj (by
              rw [List.getElem?_append_right (by omega), show i + 1 + j - A.length = j + 1 from by omega]
              exact hkj)) (List.nodup_append.1 hndUB).2.1 (by
            simp only [List.length_append, List.length_cons] at hflen2
            omega)
          rw [hdl, hBl2] at hn2
          have hgA := fun (wA : World) (rA : Root) (a4 : Grow (B.flatMap (GT.fp g)) W3.drew wA (rA.fp g)) => (show Grow (up.fp g ++ B.flatMap (GT.fp g)) W3 wA (up.fp g ++ rA.fp g) by
            refine (Grow.still (Fr.refl _ W3).drew hltUB hndUB).trans ?_
            have q := Grow.ctx (X := up.fp g) (Y := []) a4 (by simpa using hndUB) (fun x hx => by
              rcases hx with hx | hx
              · exact hltUB x (List.mem_append.2 (.inl hx))
              · cases hx)
            simpa using q)
          have hj := fun (wA : World) (rA : Root) (a1 : rA.height ≤ h + 1) (a2 : rA.flat = weave (B.map GT.flat) (es.drop (i + 1))) (a3 : RTree g N wA rA) (a4 : Grow (B.flatMap (GT.fp g)) W3.drew wA (rA.fp g)) (a5 : Fr (fun _ => False) W3.drew wA) => by
            have hFd : Fr (fun _ => False) W3 wA := (Fr.refl _ W3).drew.trans a5 (fun _ _ h => h)
            exact join_root tb g N up rA kk vv wA (by omega) (by omega) ((hFd.cell (p := ⟨tb, 1, none⟩) tbl3 (fun h => h)).trans hg3) ((hgA wA rA a4).out (hoUB tb htbl htbk) tbl3).1 (by have := hFd.size; omega) (hup.still hFd) a3 (hgA wA rA a4).nd (by rw [a2]; exact hflen2) (by rw [a2]; exact hSub0)
          have HG := Lib.hid (And.intro hgA (And.intro hfw (And.intro (hoUB b hbl hout.1) (And.intro (hoUB eb (he.lt eb rfl).2 hout.2.1) (And.intro r1 r2)))))
          have hI2 : (i : Int) + 1 ≤ (Le : Int) := by omega
          have hI3 : (Le : Int) ≤ (cap : Int) := by omega
          have hI4 : (i : Int) + 1 ≤ (Le : Int) + 1 := by omega
          have hI5 : (i : Int) < (Le : Int) := by omega
          have hI6 : (i : Int) + 1 ≤ (kcap : Int) := by omega
          have hI9 : (0 : Int) ≤ (i : Int) + 1 := by omega
          have hkc : ¬ kcap = i + 1 := by omega
          have hwr : IntKind.i64.wrap ((i : Int) + 1) = (i : Int) + 1 := by rw [IntKind.wrap_i64]; omega
          have hdn : cap = i + 1 → es.drop (i + 1) = [] := fun h => List.drop_eq_nil_of_le (by omega)
          clear hb he hk hkl hLe hg htbk ht hltk hndk hl hS hout hpl hAl b1 k1 hTK hKs hff hSf hndK hg1 g2 b2 e2 k2 hg2 hAT hrow hAe hBl hfmap r1 r2 r3 r4 r5 r6 r7 g3 b3 e3 k3 hg3 hBT hup l1 l2 l3 l4 hdr hkk hvv hdl hBl2 hBw hfw hflen hflen2 hSub0 hrow3 hoUB hgA hndUB hltUB
          by_cases hci : cap = i + 1
          · have HDN := Lib.hid (hdn hci)
            clear hdn
            have hzz : Le - (i + 1) = 0 := by omega
            rw [hzz] at hn2
            clear hzz
            subst hci
            go_upto_region 13 with fail
            go_region_held3 (fun w' => w'.cell? ⟨b, 3, none⟩ = some (.slice (some ⟨eb, 0, none⟩) Le (i + 1)) ∧ w'.cell? ⟨b, 4, none⟩ = some (.slice (some ⟨kb, 0, none⟩) (Le + 1) kcap) ∧ w'.cell? ⟨eb, i * 2, none⟩ = some (.string kk) ∧ w'.cell? ⟨eb, i * 2 + 1, none⟩ = some (.int .i64 vv)) (go_keep)
              (first
              | (go_at_call 31; (with_reducible refine (hn2 W3.drew (Fr.refl _ W3).drew _ _ ?ha).mono ?_); (case ha => exact fun h => (h HDN.out).elim); rintro e wA ⟨rA, rfl, a1, a2, a3, a4, a5⟩; have y0 := (a5.cell (p := ⟨b, 3, none⟩) bl3 (fun h => h)).trans c3; have y1 := (a5.cell (p := ⟨b, 4, none⟩) bl3 (fun h => h)).trans c4; have y2 := (a5.cell (p := ⟨eb, i * 2, none⟩) ebl3 (fun h => h)).trans x0; have y3 := (a5.cell (p := ⟨eb, i * 2 + 1, none⟩) ebl3 (fun h => h)).trans x1)
              | (go_at_call 32; (with_reducible refine (hj wA rA a1 a2 a3 a4 a5).mono ?_); rintro e wB ⟨hB, T, rfl, t1, t2, t3, t4⟩; have hgo := (HG.out.1 wA rA a4).trans t4; have z0 := (hgo.fr.cell (p := ⟨b, 3, none⟩) bl3 HG.out.2.2.1).trans c3; have z1 := (hgo.fr.cell (p := ⟨b, 4, none⟩) bl3 HG.out.2.2.1).trans c4; have z2 := (hgo.fr.cell (p := ⟨eb, i * 2, none⟩) ebl3 HG.out.2.2.2.1).trans x0; have z3 := (hgo.fr.cell (p := ⟨eb, i * 2 + 1, none⟩) ebl3 HG.out.2.2.2.1).trans x1; unfold GT.ptr))
            all_goals go_wp2_with fail
            all_goals go_meet
            all_goals
              case rel =>
                obtain ⟨hgA, hfw, _, _, r1, r2⟩ := HG.out
                refine ⟨some ⟨hB, T⟩, rfl, ?_, ?_, t3, (hgA wA rA a4).trans t4⟩
                · show hB ≤ 2 * h + 2
                  have : max up.height rA.height + 1 ≤ 2 * h + 2 := by omega
                  omega
                · show T.flat = _
                  rw [t2, a2, hfw]
          · clear hdn
            go_upto_region 13 with fail
            go_region_held3 (fun w' => w'.cell? ⟨b, 3, none⟩ = some (.slice (some ⟨eb, 0, none⟩) Le cap) ∧ w'.cell? ⟨b, 4, none⟩ = some (.slice (some ⟨kb, 0, none⟩) (Le + 1) kcap) ∧ w'.cell? ⟨eb, i * 2, none⟩ = some (.string kk) ∧ w'.cell? ⟨eb, i * 2 + 1, none⟩ = some (.int .i64 vv)) (go_keep)
              (first
              | (go_at_call 31; (with_reducible refine (hn2 W3.drew (Fr.refl _ W3).drew _ _ ?ha).mono ?_); (case ha => exact fun _ => rfl); rintro e wA ⟨rA, rfl, a1, a2, a3, a4, a5⟩; have y0 := (a5.cell (p := ⟨b, 3, none⟩) bl3 (fun h => h)).trans c3; have y1 := (a5.cell (p := ⟨b, 4, none⟩) bl3 (fun h => h)).trans c4; have y2 := (a5.cell (p := ⟨eb, i * 2, none⟩) ebl3 (fun h => h)).trans x0; have y3 := (a5.cell (p := ⟨eb, i * 2 + 1, none⟩) ebl3 (fun h => h)).trans x1)
              | (go_at_call 32; (with_reducible refine (hj wA rA a1 a2 a3 a4 a5).mono ?_); rintro e wB ⟨hB, T, rfl, t1, t2, t3, t4⟩; have hgo := (HG.out.1 wA rA a4).trans t4; have z0 := (hgo.fr.cell (p := ⟨b, 3, none⟩) bl3 HG.out.2.2.1).trans c3; have z1 := (hgo.fr.cell (p := ⟨b, 4, none⟩) bl3 HG.out.2.2.1).trans c4; have z2 := (hgo.fr.cell (p := ⟨eb, i * 2, none⟩) ebl3 HG.out.2.2.2.1).trans x0; have z3 := (hgo.fr.cell (p := ⟨eb, i * 2 + 1, none⟩) ebl3 HG.out.2.2.2.1).trans x1; unfold GT.ptr))
            all_goals go_wp2_with fail
            all_goals go_meet
            all_goals
              case rel =>
                obtain ⟨hgA, hfw, _, _, r1, r2⟩ := HG.out
                refine ⟨some ⟨hB, T⟩, rfl, ?_, ?_, t3, (hgA wA rA a4).trans t4⟩
                · show hB ≤ 2 * h + 2
                  have : max up.height rA.height + 1 ≤ 2 * h + 2 := by omega
                  omega
                · show T.flat = _
                  rw [t2, a2, hfw]
        · have hB0 : B = [] := List.eq_nil_of_length_eq_zero (by omega)
          have HU := Lib.hid (And.intro hB0 (And.intro hup (And.intro hndUB (And.intro hltUB r2))))
          have hil' : ¬ ((i : Int) < (Le : Int)) := by omega
          clear hb he hk hkl hLe hg htbk ht hltk hndk hl hS hout hpl hAl b1 k1 hTK hKs hff hSf hndK hg1 g2 b2 e2 k2 hg2 hAT hrow hAe hBl hfmap r1 r2 r3 r4 r5 r6 r7 g3 b3 e3 k3 hg3 hBT hup l1 l2 l3 l4 hB0 hndUB hltUB
          go_wp2_with fail
          go_meet
          case rel =>
            obtain ⟨hB0, hup, hndUB, hltUB, r2⟩ := HU.out
            subst hB0
            refine ⟨up, rfl, by omega, by rw [List.map_nil, aft_nil, List.append_nil], hup, ?_⟩
            simp only [List.flatMap_nil, List.append_nil] at hndUB hltUB ⊢
            exact Grow.still (Fr.refl _ W3) hltUB hndUB
      case rest =>
        obtain ⟨up2, rfl, u1, u2, u3, u4⟩ := hcut
        rename World => W4
        clear c3 c4
        go_wp2_with fail
        go_ret2
        obtain ⟨hb, he, hk, hkl, hLe, hg, htbk, ht, hltk, hndk, hl, hS, hout⟩ := H0.out
        obtain ⟨hpl, hAl, b1, k1, hTK, hKs, hff, hSf, hndK, hg1, _⟩ := H1.out
        obtain ⟨g2, b2, e2, k2, hg2, hAT, hrow, hAe, hBl, hfmap, r3, r4, r5, r6, r7, r1, r2⟩ := H2.out
        obtain ⟨g3, b3, e3, k3, hg3, hBT, hup, l1, l2, l3, l4⟩ := H3.out
        have hdis := (List.nodup_append.1 g3.nd).2.2
        have g4 : Grow ((A ++ K :: B).flatMap (GT.fp g)) w W4 (lo2.fp g ++ up2.fp g) := by
          refine g3.trans ?_
          have q := Grow.ctx (X := lo2.fp g) (Y := []) u4 (by simpa using g3.nd) (fun x hx => by
            rcases hx with hx | hx
            · exact g3.lt x (List.mem_append.2 (.inl hx))
            · cases hx)
          simpa using q
        refine ⟨lo2, up2, rfl, l1, u1, ?_, ?_, ?_, ?_, u3, g4.from (fun x hx => List.mem_append.2 (.inr hx))⟩
        · show (nk ⟨b, eb, kb, gen, es⟩ (A ++ K :: B)).flat = _
          rw [hff, l2, u2, r3]
          simp [List.append_assoc]
        · intro x hx
          rw [l2] at hx
          rcases List.mem_append.1 hx with hx | hx
          · obtain ⟨e', he', h'⟩ := fore_below _ _ hSf.left x hx
            have q := hpl.below e' (by rw [← hAl]; exact he')
            rcases h' with rfl | h'
            · exact q
            · exact h'.trans q
          · exact r4 x hx
        · intro x hx
          rw [u2] at hx
          rcases List.mem_append.1 hx with hx | hx
          · exact r5 x hx
          · obtain ⟨e', he', h'⟩ := aft_above _ _ hSf.right.right x hx
            have q := hpl.notBelow e' (by rw [← hAl]; exact he')
            rcases h' with rfl | h'
            · exact q
            · exact fun hlt => q (h'.trans hlt)
        · exact l3.fr u4.fr (fun j hj hm => by
            rcases List.mem_append.1 hm with hm | hm
            · have := (hup.fp_lt j hm).1; omega
            · obtain ⟨k', hk', hx⟩ := List.mem_flatMap.1 hm
              have := ((hBT k' hk').fp_lt j hx).1
              omega) (fun x hx hm => hdis x hx x hm rfl)
end Go.Proofs.Ybulkbrzk.BT
