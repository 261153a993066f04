/-
  The contracts on trees: raise, append.
-/
import Derived.Test.YbulkbrzkKid
import Derived.Test.YbulkbrzkRaise
import Derived.Test.YbulkbrzkAppend
namespace Go.Proofs.Ybulkbrzk.BT
open Go Go.RowKit
set_option linter.unusedVariables false

/-- new own blocks ahead -/
theorem Grow.more {F Z : List Nat} {w w' : World} (hF : Fr (fun _ => False) w w') (hlt : ∀ x, x ∈ F → x < w.heap.size) (hnd : F.Nodup) (hz : ∀ z, z ∈ Z → w.heap.size ≤ z ∧ z < w'.heap.size) (hzn : Z.Nodup) : Grow F w w' (Z ++ F) := by
  have := Grow.newOnes (X := []) (A := []) (B := F) (Z := Z) hF (fun i _ h => h.elim) (by simpa using hlt) (by simpa using hnd) hz hzn
  simpa using this

theorem raise_tree {h : Nat} (tb g N : Nat) (L R : GT h) (k : ByteArray) (v : Int) (w : World) (hg : w.cell? ⟨tb, 1, none⟩ = some (.int .u64 g)) (hN : N ≤ w.heap.size) (hL : Tree g N w L) (hR : Tree g N w R) (hnd : (L.fp g ++ R.fp g).Nodup) (hl : L.flat.length ≤ 4096) (hr : R.flat.length ≤ 4096) :
    Calls Yba.prog 25 #[.pointer (some ⟨tb, 0, none⟩), L.ptr, .agg #[.string k, .int .i64 v], R.ptr] w fun e w' => ∃ T : GT (h + 1), e = .returned T.ptr ∧ T.nd.gen = g ∧ T.flat = L.flat ++ (k, v) :: R.flat ∧ Tree g N w' T ∧ Grow (L.fp g ++ R.fp g) w w' (T.fp g) ∧ Fr (fun _ => False) w w' := by
  obtain ⟨c1, v1, a1, _⟩ := hL.at
  obtain ⟨c2, v2, a2, _⟩ := hR.at
  refine (raise_in tb g L.nd.b R.nd.b L.flat.length R.flat.length (bytes L.flat) (bytes R.flat) k v w hg (by omega) (by omega) ⟨_, _, _, a1⟩ ⟨_, _, _, a2⟩).mono ?_
  rintro e w' ⟨n', rfl, g1, e1, n1, f1, d1, hF⟩
  have hflat : (nk n' [L, R]).flat = L.flat ++ (k, v) :: R.flat := by
    show weave [L.flat, R.flat] n'.es = _
    rw [e1]
    simp [weave]
  refine ⟨nk n' [L, R], rfl, g1, hflat, ?_, ?_, hF⟩
  · refine ⟨?_, by show 2 = n'.es.length + 1; rw [e1]; rfl, lies_of g1 (Nat.le_trans hN f1.1) (Nat.le_trans hN f1.2.1) (fun _ => Nat.le_trans hN f1.2.2), fun h => (h g1).elim, fun T hT => ?_⟩
    · show NodeAt w' n' (nk n' [L, R]).flat.length (wr (bytes (nk n' [L, R]).flat)) (some [L.nd.b, R.nd.b])
      have h1 : (L.flat ++ (k, v) :: R.flat).length = L.flat.length + 1 + R.flat.length := by simp; omega
      have h2 : bytes (L.flat ++ (k, v) :: R.flat) = bytes L.flat + k.size + bytes R.flat := by rw [bytes_append]; simp only [bytes]; omega
      rw [hflat, h1, h2]
      exact n1
    · simp only [List.mem_cons, List.not_mem_nil, or_false] at hT
      rcases hT with rfl | rfl
      · exact hL.still hF
      · exact hR.still hF
  · have hfp : (nk n' [L, R]).fp g = n'.own g true ++ (L.fp g ++ R.fp g) := by
      show n'.own g true ++ ([L, R] : List (GT h)).flatMap (GT.fp g) = _
      simp
    rw [hfp]
    refine Grow.more hF (fun x hx => ?_) hnd (fun z hz => ⟨own_new f1 z hz, (own_lt n1 (lies_of (N := 0) g1 (Nat.zero_le _) (Nat.zero_le _) (fun _ => Nat.zero_le _)) z hz).2⟩) (own_nodup ⟨d1.1, fun _ => d1.2⟩)
    rcases List.mem_append.1 hx with hx | hx
    · exact (hL.fp_lt x hx).2
    · exact (hR.fp_lt x hx).2

theorem append_tree {h : Nat} (g N : Nat) (t r : GT h) (k : ByteArray) (v : Int) (w : World) (ht : Tree g N w t) (hr : Tree g N w r) (hN : N ≤ w.heap.size) (hgen : t.nd.gen = g) (hnd : (t.fp g ++ r.fp g).Nodup) (hl : t.flat.length ≤ 4096) (hl2 : r.flat.length ≤ 4096) :
    Calls Yba.prog 69 #[t.ptr, .agg #[.string k, .int .i64 v], r.ptr] w fun e w' => ∃ t' : GT h, e = .returned (.tuple #[]) ∧ t'.nd.b = t.nd.b ∧ t'.nd.gen = g ∧ t'.flat = t.flat ++ (k, v) :: r.flat ∧ Tree g N w' t' ∧ Grow (t.fp g ++ r.fp g) w w' (t'.fp g) := by
  have hfl := ht.flat_len
  have hfr := hr.flat_len
  have hnt := (List.nodup_append.1 hnd).1
  have hnr := (List.nodup_append.1 hnd).2.1
  have hod := own_nd hgen (GT.fp_nd hnt)
  have hmo := mem_own (kid := t.kids.isSome) (n := t.nd) hgen
  have hdis : ∀ x, x ∈ r.fp g → x ∉ t.nd.own g t.kids.isSome := fun x hx hm => (List.nodup_append.1 hnd).2.2 x (t.fp_own x hm) x hx rfl
  have hap := hr.apart (t.nd.own g t.kids.isSome) (fun x hx => (ht.fp_lt x (t.fp_own x hx)).1) hdis
  have hkk : t.kids.isSome = r.kids.isSome := by cases h <;> rfl
  have hap3 : t.kids.isSome = true → r.nd.kb ∉ t.nd.own g t.kids.isSome := fun h => hap.2.2 (hkk ▸ h)
  have hlt : ∀ x, x ∈ t.fp g ++ r.fp g → x < w.heap.size := fun x hx => by
    rcases List.mem_append.1 hx with hx | hx
    · exact (ht.fp_lt x hx).2
    · exact (hr.fp_lt x hx).2
  refine (append_in t.nd r.nd t.kids.bs r.kids.bs _ _ _ _ k v w ht.at hr.at (by omega) (by omega) (by omega) (by omega) (by rw [Kids.bs_isSome, Kids.bs_isSome]; exact hkk) (fun l hl => ?_) (fun l hl => ?_) ⟨hod.1, fun h => hod.2 (by rw [← Kids.bs_isSome]; exact h)⟩
    ⟨fun e => hap.1 (by rw [e]; exact hmo.1), fun e => hap.1 (by rw [e]; exact hmo.2.1), fun e => hap.2.1 (by rw [e]; exact hmo.1), fun e => hap.2.1 (by rw [e]; exact hmo.2.1), fun h => ?_⟩).mono ?_
  · cases hk : t.kids with
    | none => rw [hk] at hl; cases hl
    | some l' =>
      rw [hk] at hl
      cases hl
      rw [List.length_map, ht.kids_len l' hk]
      omega
  · cases hk : r.kids with
    | none => rw [hk] at hl; cases hl
    | some l' =>
      rw [hk] at hl
      cases hl
      rw [List.length_map, hr.kids_len l' hk]
      omega
  · rw [Kids.bs_isSome] at h
    have hm3 := hmo.2.2 h
    exact ⟨fun e => hap.1 (by rw [e]; exact hm3), fun e => hap.2.1 (by rw [e]; exact hm3), fun e => hap3 h (by rw [e]; exact hmo.1), fun e => hap3 h (by rw [e]; exact hmo.2.1), fun e => hap3 h (by rw [e]; exact hm3)⟩
  · rintro e w' ⟨n', rfl, b1, g1, e1, n1, f1, d1, hF⟩
    rw [Kids.bs_isSome] at d1
    have hFo : ∀ i, i < w.heap.size → (i = t.nd.b ∨ i = t.nd.eb ∨ (t.kids.bs.isSome = true ∧ i = t.nd.kb)) → i ∈ t.nd.own g t.kids.isSome := fun i hi h => by
      rcases h with rfl | rfl | ⟨h, rfl⟩
      · exact hmo.1
      · exact hmo.2.1
      · exact hmo.2.2 (by rw [← Kids.bs_isSome]; exact h)
    have hlie := ht.lies
    unfold Nd.lies at hlie
    rw [if_pos hgen] at hlie
    have g1' : n'.gen = g := g1.trans hgen
    have hsz := hF.size
    cases h with
    | zero =>
      have hT' : Tree g N w' (h := 0) n' := by
        refine ⟨?_, lies_of g1' (by show N ≤ n'.b; rw [b1]; exact hlie.1) (by show N ≤ n'.eb; have := hlie.2.1; omega) (fun h => by cases h)⟩
        have h1 : n'.es.length = t.flat.length + (1 + r.flat.length) := by rw [e1]; show (t.nd.es ++ (k, v) :: r.nd.es).length = t.nd.es.length + (1 + r.nd.es.length); simp; omega
        have h2 : bytes n'.es = bytes t.flat + (k.size + bytes r.flat) := by rw [e1, bytes_append]; rfl
        rw [h1, h2]
        exact n1
      refine ⟨n', rfl, b1, g1', ?_, hT', ?_⟩
      · show n'.es = t.nd.es ++ (k, v) :: r.nd.es
        exact e1
      · have hG := Grow.swapEb (n := t.nd) (kid := false) (eb' := n'.eb) (es' := n'.es) (r.fp g) hgen hF (fun i hi h => hFo i hi h) hlt hnd (by have := (hT'.fp_lt n'.eb (mem_own (kid := false) g1').2.1).2; omega)
        have e2 : ({ t.nd with eb := n'.eb, es := n'.es } : Nd).own g false = n'.own g false := by
          unfold Nd.own
          rw [if_pos g1', if_pos hgen, b1]
          rfl
        rw [e2] at hG
        exact hG.less (fun x hx => List.mem_append.2 (.inl hx)) (own_nodup ⟨d1.1, fun h => by cases h⟩)
    | succ h =>
      have hd1 := d1.2 rfl
      have hk1 : t.2.length = t.nd.es.length + 1 := ht.2.1
      have hk2 : r.2.length = r.nd.es.length + 1 := hr.2.1
      have hflat : (nk n' (t.2 ++ r.2)).flat = t.flat ++ (k, v) :: r.flat := by
        show weave ((t.2 ++ r.2).map GT.flat) n'.es = weave (t.2.map GT.flat) t.nd.es ++ (k, v) :: weave (r.2.map GT.flat) r.nd.es
        rw [e1, List.map_append, weave_cut _ _ _ _ _ (by rw [List.length_map]; exact hk1)]
      have hkt : ∀ T, T ∈ t.2 → Tree g N w' T := ht.kidsOk hnt hF (fun i h hi => hFo i hi h)
      have hkr : ∀ T, T ∈ r.2 → Tree g N w' T := fun T hT => by
        have hF' : Fr (fun i => i ∈ t.nd.own g true) w w' := hF.mono (fun i hi h => hFo i hi h)
        refine (hr.2.2.2.2 T hT).fr hF' (fun i hi h => ?_) (fun x hx h => ?_)
        · have := (ht.fp_lt i (t.fp_own i h)).1
          omega
        · exact hdis x (List.mem_append.2 (.inr (List.mem_flatMap.2 ⟨T, hT, hx⟩))) h
      have hT' : Tree g N w' (nk n' (t.2 ++ r.2)) := by
        refine ⟨?_, ?_, lies_of g1' (by show N ≤ n'.b; rw [b1]; exact hlie.1) (by show N ≤ n'.eb; have := hlie.2.1; omega) (fun _ => by show N ≤ n'.kb; have := hlie.2.2 rfl; omega), fun h => (h g1').elim, fun T hT => ?_⟩
        · show NodeAt w' n' (nk n' (t.2 ++ r.2)).flat.length (wr (bytes (nk n' (t.2 ++ r.2)).flat)) (some ((t.2 ++ r.2).map fun k => k.nd.b))
          have h1 : (t.flat ++ (k, v) :: r.flat).length = t.flat.length + (1 + r.flat.length) := by simp; omega
          have h2 : bytes (t.flat ++ (k, v) :: r.flat) = bytes t.flat + (k.size + bytes r.flat) := by rw [bytes_append]; rfl
          rw [hflat, h1, h2]
          have hbs : (t.kids.bs.bind fun l => r.kids.bs.map fun l2 => l ++ l2) = some ((t.2 ++ r.2).map fun k => k.nd.b) := by
            show some ((t.2.map fun k => (k.nd.b, k.flat.length, bytes k.flat)).map (·.1) ++ (r.2.map fun k => (k.nd.b, k.flat.length, bytes k.flat)).map (·.1)) = _
            rw [kids_bs, kids_bs, List.map_append]
          rw [hbs] at n1
          exact n1
        · show (t.2 ++ r.2).length = n'.es.length + 1
          rw [e1]
          simp
          omega
        · rcases List.mem_append.1 hT with hT | hT
          · exact hkt T hT
          · exact hkr T hT
      refine ⟨nk n' (t.2 ++ r.2), rfl, b1, g1', hflat, hT', ?_⟩
      · have hmn := mem_own (kid := true) g1'
        have q1 := (hT'.fp_lt n'.eb (List.mem_append.2 (.inl hmn.2.1))).2
        have q2 := (hT'.fp_lt n'.kb (List.mem_append.2 (.inl (hmn.2.2 rfl)))).2
        have hassoc : t.fp g ++ r.fp g = t.nd.own g true ++ (t.2.flatMap (GT.fp g) ++ (r.nd.own g true ++ r.2.flatMap (GT.fp g))) := by
          show (t.nd.own g true ++ t.2.flatMap (GT.fp g)) ++ (r.nd.own g true ++ r.2.flatMap (GT.fp g)) = _
          rw [List.append_assoc]
        rw [hassoc] at hnd hlt ⊢
        have hG := Grow.swap2 (n := t.nd) (eb' := n'.eb) (kb' := n'.kb) (es' := n'.es) _ hgen hF (fun i hi h => hFo i hi h) hlt hnd (by omega) (by omega) hd1.2
        have e2 : (⟨t.nd.b, n'.eb, n'.kb, t.nd.gen, n'.es⟩ : Nd) = n' := by rw [← b1, ← g1]
        rw [e2] at hG
        have e3 : (nk n' (t.2 ++ r.2)).fp g = n'.own g true ++ (t.2.flatMap (GT.fp g) ++ r.2.flatMap (GT.fp g)) := by
          show n'.own g true ++ (t.2 ++ r.2).flatMap (GT.fp g) = _
          rw [List.flatMap_append]
        rw [e3]
        refine hG.less (fun x hx => ?_) (List.Nodup.sublist ?_ hG.nd)
        · simp only [List.mem_append] at hx ⊢
          rcases hx with hx | hx | hx
          · exact .inl hx
          · exact .inr (.inl hx)
          · exact .inr (.inr (.inr hx))
        · exact (List.Sublist.refl _).append ((List.Sublist.refl _).append (List.sublist_append_right _ _))
end Go.Proofs.Ybulkbrzk.BT
