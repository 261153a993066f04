/-
  The contracts on trees: split.
-/
import Derived.Test.YbulkbrzkOps
namespace Go.Proofs.Ybulkbrzk.BT
open Go Go.RowKit
set_option linter.unusedVariables false

theorem weave_cut : ∀ (A B : List (List E)) (P : List E) (e : E) (Q : List E), A.length = P.length + 1 → weave (A ++ B) (P ++ e :: Q) = weave A P ++ e :: weave B Q
  | [], _, _, _, _, h => by simp at h
  | [a], B, [], e, Q, _ => rfl
  | a :: b :: A, B, [], e, Q, h => by simp at h
  | a :: A, B, p :: P, e, Q, h => by
    have := weave_cut A B P e Q (by simpa using h)
    simp [weave, this]

theorem nodup_insert {X Y Z : List Nat} (h : (X ++ Y).Nodup) (hz : Z.Nodup) (hd : ∀ z, z ∈ Z → z ∉ X ∧ z ∉ Y) : (X ++ (Z ++ Y)).Nodup := by
  have hp : (Z ++ (X ++ Y)).Perm (X ++ (Z ++ Y)) := by
    rw [← List.append_assoc, ← List.append_assoc]
    exact List.Perm.append_right _ List.perm_append_comm
  refine hp.nodup_iff.1 ?_
  rw [List.nodup_append]
  refine ⟨hz, h, fun a ha b hb e => ?_⟩
  subst e
  rcases List.mem_append.1 hb with hb | hb
  · exact (hd a ha).1 hb
  · exact (hd a ha).2 hb

theorem GT.fp_nd {g : Nat} : {h : Nat} → {t : GT h} → (t.fp g).Nodup → (t.nd.own g t.kids.isSome).Nodup
  | 0, n, h => h
  | _ + 1, t, h => (List.nodup_append.1 h).1

theorem own_nd {g : Nat} {n : Nd} {kid : Bool} (hg : n.gen = g) (h : (n.own g kid).Nodup) : n.b ≠ n.eb ∧ (kid = true → n.b ≠ n.kb ∧ n.eb ≠ n.kb) := by
  unfold Nd.own at h
  rw [if_pos hg] at h
  cases kid <;> simp at h
  · exact ⟨h, fun h => by cases h⟩
  · exact ⟨h.1.1, fun _ => ⟨h.1.2, h.2⟩⟩

theorem mem_own {g : Nat} {n : Nd} {kid : Bool} (hg : n.gen = g) : n.b ∈ n.own g kid ∧ n.eb ∈ n.own g kid ∧ (kid = true → n.kb ∈ n.own g kid) := by
  unfold Nd.own
  rw [if_pos hg]
  refine ⟨by simp, by simp, fun h => by simp [h]⟩

/-- a kid's node lies apart from blocks that are not the kid's own -/
theorem Tree.apart {g N : Nat} {W : World} {h : Nat} {k : GT h} (hk : Tree g N W k) (F : List Nat) (hF : ∀ x, x ∈ F → N ≤ x) (hd : ∀ x, x ∈ k.fp g → x ∉ F) : k.nd.b ∉ F ∧ k.nd.eb ∉ F ∧ (k.kids.isSome = true → k.nd.kb ∉ F) :=
  lies_not (S := (· ∈ F)) (fun i hi hm => by have := hF i hm; omega) hk.lies (fun x hx => hd x (k.fp_own x hx))

theorem lies_of {g N : Nat} {n : Nd} {kid : Bool} (hg : n.gen = g) (h1 : N ≤ n.b) (h2 : N ≤ n.eb) (h3 : kid = true → N ≤ n.kb) : n.lies g N kid := by
  unfold Nd.lies
  rw [if_pos hg]
  exact ⟨h1, h2, h3⟩

theorem own_new {g s : Nat} {n : Nd} {kid : Bool} (h : s ≤ n.b ∧ s ≤ n.eb ∧ s ≤ n.kb) : ∀ x, x ∈ n.own g kid → s ≤ x := by
  intro x hx
  unfold Nd.own at hx
  split at hx
  · cases kid <;> simp at hx <;> omega
  · cases hx

theorem own_nodup {g : Nat} {n : Nd} {kid : Bool} (h : n.b ≠ n.eb ∧ (kid = true → n.b ≠ n.kb ∧ n.eb ≠ n.kb)) : (n.own g kid).Nodup := by
  unfold Nd.own
  split
  · cases kid
    · simp [h.1]
    · have := h.2 rfl
      simp [h.1, this]
  · simp

theorem split_at (es : List E) (i : Nat) (hi : i < es.length) : es = es.take i ++ (keyAt es i, valAt es i) :: es.drop (i + 1) := by
  have : (keyAt es i, valAt es i) = es[i] := by simp [keyAt, valAt, List.getElem?_eq_getElem hi]
  rw [this, ← List.drop_eq_getElem_cons hi, List.take_append_drop]

theorem Grow.newOnes {X A B Z : List Nat} {w w' : World} {S : Nat → Prop} (hF : Fr S w w') (hs : ∀ i, i < w.heap.size → S i → i ∈ X) (hlt : ∀ x, x ∈ X ++ (A ++ B) → x < w.heap.size) (hnd : (X ++ (A ++ B)).Nodup) (hz : ∀ z, z ∈ Z → w.heap.size ≤ z ∧ z < w'.heap.size) (hzn : Z.Nodup) :
    Grow (X ++ (A ++ B)) w w' ((X ++ A) ++ (Z ++ B)) := by
  refine ⟨hF.mono (fun i hi h => List.mem_append.2 (.inl (hs i hi h))), fun x hx => ?_, fun x hx => ?_, ?_⟩
  · simp only [List.mem_append] at hx ⊢
    rcases hx with (hx | hx) | (hx | hx)
    · exact .inl (.inl hx)
    · exact .inl (.inr (.inl hx))
    · exact .inr (hz x hx).1
    · exact .inl (.inr (.inr hx))
  · have hsz := hF.size
    simp only [List.mem_append] at hx hlt
    rcases hx with (hx | hx) | (hx | hx)
    · have := hlt x (.inl hx); omega
    · have := hlt x (.inr (.inl hx)); omega
    · exact (hz x hx).2
    · have := hlt x (.inr (.inr hx)); omega
  · rw [← List.append_assoc] at hnd
    refine nodup_insert hnd hzn (fun z hzm => ⟨fun h => ?_, fun h => ?_⟩)
    · have := hlt z (by simp only [List.mem_append] at h ⊢; rcases h with h | h; exact .inl h; exact .inr (.inl h)); have := (hz z hzm).1; omega
    · have := hlt z (by simp only [List.mem_append]; exact .inr (.inr h)); have := (hz z hzm).1; omega

theorem split_tree {h : Nat} (tb g N : Nat) (t : GT h) (w : World) (hg : w.cell? ⟨tb, 1, none⟩ = some (.int .u64 g)) (hN : N ≤ w.heap.size) (ht : Tree g N w t) (hgen : t.nd.gen = g) (hnd : (t.fp g).Nodup) (hl : t.flat.length ≤ 4096) (h3 : 3 ≤ t.nd.es.length) :
    Calls Yba.prog 24 #[.pointer (some ⟨tb, 0, none⟩), t.ptr] w fun e w' => ∃ (L R : GT h) (k : ByteArray) (v : Int), e = .returned (.tuple #[.agg #[.string k, .int .i64 v], R.ptr]) ∧ L.nd.b = t.nd.b ∧ L.nd.gen = g ∧ R.nd.gen = g ∧ t.flat = L.flat ++ (k, v) :: R.flat ∧
      Tree g N w' L ∧ Tree g N w' R ∧ Grow (t.fp g) w w' (L.fp g ++ R.fp g) := by
  have hfl := ht.flat_len
  have hown := GT.fp_nd hnd
  have hod := own_nd hgen hown
  have hat := ht.at
  rw [hfl.1, hfl.2] at hat
  have hlie := ht.lies
  unfold Nd.lies at hlie
  rw [if_pos hgen] at hlie
  refine (split_in tb g t.nd t.kids w hg hat h3 (by omega) hod (fun l hl' => ⟨ht.kids_len l hl', ?_, ?_⟩)).mono ?_
  · rw [hl'] at hfl
    have : ksz l = Kids.sz (some l) := rfl
    omega
  · intro j c hc
    cases h with
    | zero => cases hl'
    | succ h =>
      cases hl'
      rw [List.getElem?_map, Option.map_eq_some_iff] at hc
      obtain ⟨k, hk, rfl⟩ := hc
      have hkm : k ∈ t.2 := List.mem_of_getElem? hk
      have hTk := ht.2.2.2.2 k hkm
      have hdis : ∀ x, x ∈ k.fp g → x ∉ t.1.own g true := fun x hx hm => (List.nodup_append.1 hnd).2.2 x hm x (List.mem_flatMap.2 ⟨k, hkm, hx⟩) rfl
      have ha := hTk.apart (t.1.own g true) (fun x hx => (ht.fp_lt x (List.mem_append.2 (.inl hx))).1) hdis
      obtain ⟨m1, m2, m3⟩ := mem_own (kid := true) (n := t.1) hgen
      obtain ⟨cap, kv, hcb, _⟩ := hTk.at
      refine ⟨⟨fun e => ha.1 (by rw [show k.nd.b = t.1.b from e]; exact m1), fun e => ha.1 (by rw [show k.nd.b = t.1.eb from e]; exact m2), fun e => ha.1 (by rw [show k.nd.b = t.1.kb from e]; exact m3 rfl)⟩, k.nd.gen, _, _, hcb⟩
  · rintro e w' ⟨n', rfl, g1, e1, n1, f1, d1, n2, hF⟩
    have hsz := hF.size
    cases h with
    | zero =>
      refine ⟨{ t.nd with es := t.nd.es.take (t.nd.es.length / 2) }, n', _, _, rfl, rfl, hgen, g1, ?_, ?_, ?_, ?_⟩
      · show t.nd.es = t.nd.es.take (t.nd.es.length / 2) ++ (keyAt t.nd.es (t.nd.es.length / 2), valAt t.nd.es (t.nd.es.length / 2)) :: n'.es
        rw [e1]
        exact split_at t.nd.es _ (by omega)
      · exact ⟨n2, lies_of hgen hlie.1 hlie.2.1 (fun h => by cases h)⟩
      · exact ⟨n1, lies_of g1 (by omega) (by omega) (fun h => by cases h)⟩
      · have := Grow.newOnes (X := t.nd.own g false) (A := []) (B := []) (Z := n'.own g false) hF (fun i hi h => by
          obtain ⟨m1, m2, _⟩ := mem_own (kid := false) (n := t.nd) hgen
          rcases h with rfl | rfl | ⟨h, _⟩
          · exact m1
          · exact m2
          · cases h) (fun x hx => (ht.fp_lt x (by rw [List.append_nil, List.append_nil] at hx; exact hx)).2) (by rw [List.append_nil, List.append_nil]; exact hown) (fun z hz => ⟨own_new f1 z hz, (own_lt n1 (lies_of (N := 0) g1 (Nat.zero_le _) (Nat.zero_le _) (fun _ => Nat.zero_le _)) z hz).2⟩) (own_nodup ⟨d1.1, fun h => by cases h⟩)
        simp only [List.append_nil] at this
        exact this
    | succ h =>
      have hkl : t.2.length = t.nd.es.length + 1 := ht.2.1
      have hT : ∀ k, k ∈ t.2 → Tree g N w' k := fun k hk => (ht.2.2.2.2 k hk).fr hF (fun i hi h => by
          rcases h with h | h | h
          · omega
          · omega
          · have := hlie.2.2 rfl; omega) (fun x hx h => by
          obtain ⟨m1, m2, m3⟩ := mem_own (kid := true) (n := t.1) hgen
          have hdis : x ∉ t.1.own g true := fun hm => (List.nodup_append.1 hnd).2.2 x hm x (List.mem_flatMap.2 ⟨k, hk, hx⟩) rfl
          rcases h with rfl | rfl | ⟨_, rfl⟩
          · exact hdis m1
          · exact hdis m2
          · exact hdis (m3 rfl))
      obtain ⟨H, hH⟩ : ∃ H, H = t.nd.es.length / 2 := ⟨_, rfl⟩
      rw [← hH] at e1 n1 n2 ⊢
      have hH1 : H < t.nd.es.length := by omega
      have e2 : (t.nd.es.take H).length = H := by rw [List.length_take]; omega
      have e3 : (t.nd.es.drop (H + 1)).length = t.nd.es.length - (H + 1) := List.length_drop ..
      have k1 : Kids.take (H + 1) (GT.kids t) = some ((t.2.take (H + 1)).map fun k => (k.nd.b, k.flat.length, bytes k.flat)) := by show some _ = some _; rw [List.map_take]
      have k2 : Kids.drop (H + 1) (GT.kids t) = some ((t.2.drop (H + 1)).map fun k => (k.nd.b, k.flat.length, bytes k.flat)) := by show some _ = some _; rw [List.map_drop]
      have w1 := weave_length ((t.2.take (H + 1)).map GT.flat) (t.nd.es.take H) (by rw [List.length_map, List.length_take, e2]; omega)
      have w2 := weave_bytes ((t.2.take (H + 1)).map GT.flat) (t.nd.es.take H) (by rw [List.length_map, List.length_take, e2]; omega)
      have w3 := weave_length ((t.2.drop (H + 1)).map GT.flat) (t.nd.es.drop (H + 1)) (by rw [List.length_map, List.length_drop, e3]; omega)
      have w4 := weave_bytes ((t.2.drop (H + 1)).map GT.flat) (t.nd.es.drop (H + 1)) (by rw [List.length_map, List.length_drop, e3]; omega)
      rw [lens_map] at w1 w3
      rw [byts_map] at w2 w4
      rw [k1] at n2
      rw [k2] at n1
      simp only [Kids.sz, Kids.by_, Kids.bs, kids_bs] at n1 n2
      rw [← w1, ← w2] at n2
      rw [e1, ← w3, ← w4] at n1
      refine ⟨({ t.nd with es := t.nd.es.take H }, t.2.take (H + 1)), (n', t.2.drop (H + 1)), _, _, rfl, rfl, hgen, g1, ?_, ?_, ?_, ?_⟩
      · show weave (t.2.map GT.flat) t.nd.es = weave ((t.2.take (H + 1)).map GT.flat) (t.nd.es.take H) ++ _ :: weave ((t.2.drop (H + 1)).map GT.flat) n'.es
        rw [e1, ← weave_cut _ _ _ _ _ (by rw [List.length_map, List.length_take, e2]; omega), ← List.map_append, List.take_append_drop]
        congr 1
        exact split_at t.nd.es H hH1
      · exact ⟨n2, by show (t.2.take (H + 1)).length = (t.nd.es.take H).length + 1; rw [e2, List.length_take]; omega, lies_of hgen hlie.1 hlie.2.1 hlie.2.2, fun h => (h hgen).elim, fun k hk => hT k (List.mem_of_mem_take hk)⟩
      · refine ⟨?_, by show (t.2.drop (H + 1)).length = n'.es.length + 1; rw [e1, e3, List.length_drop]; omega, lies_of g1 (Nat.le_trans hN f1.1) (Nat.le_trans hN f1.2.1) (fun _ => Nat.le_trans hN f1.2.2), fun h => (h g1).elim, fun k hk => hT k (List.mem_of_mem_drop hk)⟩
        show NodeAt w' n' (weave ((t.2.drop (H + 1)).map GT.flat) n'.es).length (wr (bytes (weave ((t.2.drop (H + 1)).map GT.flat) n'.es))) (some ((t.2.drop (H + 1)).map fun k => k.nd.b))
        rw [e1]
        exact n1
      · have hfp : t.fp g = t.1.own g true ++ ((t.2.take (H + 1)).flatMap (GT.fp g) ++ (t.2.drop (H + 1)).flatMap (GT.fp g)) := by
          show t.1.own g true ++ t.2.flatMap (GT.fp g) = _
          rw [← List.flatMap_append, List.take_append_drop]
        rw [hfp] at hnd ⊢
        exact Grow.newOnes (Z := n'.own g true) hF (fun i hi h => by
          obtain ⟨m1, m2, m3⟩ := mem_own (kid := true) (n := t.1) hgen
          rcases h with rfl | rfl | ⟨_, rfl⟩
          · exact m1
          · exact m2
          · exact m3 rfl) (fun x hx => (ht.fp_lt x (by rw [hfp]; exact hx)).2) hnd (fun z hz => ⟨own_new f1 z hz, (own_lt n1 (lies_of (N := 0) g1 (Nat.zero_le _) (Nat.zero_le _) (fun _ => Nat.zero_le _)) z hz).2⟩) (own_nodup ⟨d1.1, fun _ => d1.2⟩)
end Go.Proofs.Ybulkbrzk.BT
