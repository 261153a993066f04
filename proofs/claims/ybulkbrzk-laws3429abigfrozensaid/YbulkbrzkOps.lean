/-
  The contracts on trees: own.
-/
import Derived.Test.YbulkbrzkSplit
namespace Go.Proofs.Ybulkbrzk.BT
open Go Go.RowKit
set_option linter.unusedVariables false

def GT.withNd : {h : Nat} → GT h → Nd → GT h
  | 0, _, n => n
  | _ + 1, t, n => (n, t.2)
/-- the kids' blocks, sizes and bytes -/
def GT.kids : {h : Nat} → GT h → Kids
  | 0, _ => none
  | _ + 1, t => some (t.2.map fun k => (k.nd.b, k.flat.length, bytes k.flat))
theorem kids_bs {h : Nat} (ks : List (GT h)) : (ks.map fun k => (k.nd.b, k.flat.length, bytes k.flat)).map (·.1) = ks.map fun k => k.nd.b := by simp [List.map_map, Function.comp_def]

theorem GT.withNd_nd : {h : Nat} → (t : GT h) → (n : Nd) → (t.withNd n).nd = n
  | 0, _, _ => rfl
  | _ + 1, _, _ => rfl
theorem GT.withNd_flat : {h : Nat} → (t : GT h) → (n : Nd) → n.es = t.nd.es → (t.withNd n).flat = t.flat
  | 0, _, _, h => h
  | _ + 1, t, n, h => by
    show weave (t.2.map GT.flat) n.es = weave (t.2.map GT.flat) t.1.es
    rw [h]; rfl

theorem lens_map {h : Nat} (ks : List (GT h)) : lens (ks.map GT.flat) = ksz (ks.map fun k => (k.nd.b, k.flat.length, bytes k.flat)) := by
  unfold lens ksz
  simp [List.map_map, Function.comp_def]
theorem byts_map {h : Nat} (ks : List (GT h)) : byts (ks.map GT.flat) = kby (ks.map fun k => (k.nd.b, k.flat.length, bytes k.flat)) := by
  unfold byts kby
  simp [List.map_map, Function.comp_def]

/-- the node of a tree, its size and bytes by what lies beneath it -/
theorem Tree.at {g N : Nat} {W : World} : {h : Nat} → {t : GT h} → Tree g N W t → NodeAt W t.nd t.flat.length (wr (bytes t.flat)) t.kids.bs
  | 0, n, ht => ht.1
  | h + 1, t, ht => by
    show NodeAt W t.1 _ _ (some ((t.2.map fun k => (k.nd.b, k.flat.length, bytes k.flat)).map (·.1)))
    rw [kids_bs]
    exact ht.1
theorem Tree.flat_len {g N : Nat} {W : World} : {h : Nat} → {t : GT h} → Tree g N W t → t.flat.length = t.nd.es.length + t.kids.sz ∧ bytes t.flat = bytes t.nd.es + t.kids.by_
  | 0, n, ht => ⟨rfl, rfl⟩
  | h + 1, t, ht => by
    have h1 := weave_length (t.2.map GT.flat) t.1.es (by rw [List.length_map]; exact ht.2.1)
    have h2 := weave_bytes (t.2.map GT.flat) t.1.es (by rw [List.length_map]; exact ht.2.1)
    rw [lens_map] at h1
    rw [byts_map] at h2
    exact ⟨h1, h2⟩
theorem Tree.kids_len {g N : Nat} {W : World} {h : Nat} {t : GT h} (ht : Tree g N W t) : ∀ l, t.kids = some l → l.length = t.nd.es.length + 1 := by
  cases h with
  | zero => intro l h; cases h
  | succ h =>
    intro l hl
    cases hl
    rw [List.length_map]
    exact ht.2.1
theorem Tree.lies {g N : Nat} {W : World} : {h : Nat} → {t : GT h} → Tree g N W t → t.nd.lies g N t.kids.isSome
  | 0, n, ht => ht.2
  | h + 1, t, ht => ht.2.2.1
theorem GT.fp_own {g : Nat} : {h : Nat} → (t : GT h) → ∀ x, x ∈ t.nd.own g t.kids.isSome → x ∈ t.fp g
  | 0, n, x, hx => hx
  | h + 1, t, x, hx => by
    simp only [GT.fp, List.mem_append]
    exact .inl hx
theorem Kids.bs_isSome (ks : Kids) : ks.bs.isSome = ks.isSome := by cases ks <;> rfl

/-- a tree stands where nothing that lay has turned -/
theorem Tree.still {g N : Nat} {W W' : World} {h : Nat} {t : GT h} (ht : Tree g N W t) (hF : Fr (fun _ => False) W W') : Tree g N W' t := ht.fr hF (fun _ _ h => h) (fun _ _ h => h)
theorem Grow.still {F : List Nat} {w w' : World} (hF : Fr (fun _ => False) w w') (hl : ∀ x, x ∈ F → x < w.heap.size) (hn : F.Nodup) : Grow F w w' F := Grow.same hF (fun _ _ h => h.elim) hl hn

theorem own_tree {h : Nat} (tb g N : Nat) (t : GT h) (w : World) (hg : w.cell? ⟨tb, 1, none⟩ = some (.int .u64 g)) (hN : N ≤ w.heap.size) (ht : Tree g N w t) (hnd : (t.fp g).Nodup) (hl : t.flat.length ≤ 4096) :
    Calls Yba.prog 23 #[.pointer (some ⟨tb, 0, none⟩), t.ptr] w fun e w' => ∃ n' : Nd, e = .returned (.pointer (some ⟨n'.b, 0, none⟩)) ∧ n'.gen = g ∧ n'.es = t.nd.es ∧ Tree g N w' (t.withNd n') ∧ Grow (t.fp g) w w' ((t.withNd n').fp g) ∧ Fr (fun _ => False) w w' := by
  by_cases hgen : t.nd.gen = g
  · obtain ⟨cap, kv, hb, he, hk⟩ := ht.at
    rw [hgen] at hb
    refine (own_same tb g t.nd.b _ _ _ _ w hg hb).mono ?_
    rintro e w' ⟨rfl, q, rfl⟩
    have hF : Fr (fun _ => False) w (w.drewN q) := (Fr.refl _ _).drewN _
    have hw : t.withNd t.nd = t := by cases h <;> rfl
    refine ⟨t.nd, rfl, hgen, rfl, ?_, ?_, hF⟩
    · rw [hw]; exact ht.still hF
    · rw [hw]; exact Grow.still hF (fun x hx => (ht.fp_lt x hx).2) hnd
  · have hfl := ht.flat_len
    refine (own_copy tb g t.nd _ _ _ w hg hgen ht.at (by omega) (fun l hl => ?_)).mono ?_
    · cases hk : t.kids with
      | none => rw [hk] at hl; cases hl
      | some l' =>
        rw [hk] at hl
        cases hl
        rw [List.length_map, ht.kids_len l' hk]
        omega
    · rintro e w' ⟨n', rfl, h1, h2, h3, h4, h5, hF⟩
      have hlie : n'.lies g N t.kids.isSome := by unfold Nd.lies; rw [if_pos h1]; exact ⟨by omega, by omega, fun _ => by omega⟩
      have hfp : t.fp g = [] := by
        cases h with
        | zero => exact if_neg hgen
        | succ h =>
          have := ht.2.2.2.1 hgen
          simp only [GT.fp]
          rw [this, List.append_nil]
          exact if_neg hgen
      have hT : Tree g N w' (t.withNd n') := by
        cases h with
        | zero => exact ⟨by show NodeAt w' n' n'.es.length (wr (bytes n'.es)) none; rw [h2]; exact h3, hlie⟩
        | succ h =>
          have h6 := (ht.still hF).2
          refine ⟨?_, ?_, hlie, fun h => (h h1).elim, h6.2.2.2⟩
          · show NodeAt w' n' (weave (t.2.map GT.flat) n'.es).length (wr (bytes (weave (t.2.map GT.flat) n'.es))) (some (t.2.map fun k => k.nd.b))
            rw [h2]
            have h3' : NodeAt w' n' t.flat.length (wr (bytes t.flat)) (some ((t.2.map fun k => (k.nd.b, k.flat.length, bytes k.flat)).map (·.1))) := h3
            rw [kids_bs] at h3'
            exact h3'
          · show t.2.length = n'.es.length + 1
            rw [h2]
            exact h6.1
      refine ⟨n', rfl, h1, h2, hT, ?_, hF⟩
      have hown : (t.withNd n').fp g = n'.own g t.kids.isSome := by
        cases h with
        | zero => rfl
        | succ h =>
          show n'.own g true ++ t.2.flatMap (GT.fp g) = n'.own g true
          rw [ht.2.2.2.1 hgen, List.append_nil]
      refine ⟨hF.mono (fun _ _ h => h.elim), fun x hx => .inr ?_, fun x hx => (hT.fp_lt x hx).2, ?_⟩
      · rw [hown] at hx
        unfold Nd.own at hx
        rw [if_pos h1] at hx
        cases hks : t.kids.isSome <;> rw [hks] at hx <;> simp at hx <;> omega
      · rw [hown]
        unfold Nd.own
        rw [if_pos h1]
        cases t.kids.isSome <;> simp <;> omega
end Go.Proofs.Ybulkbrzk.BT
