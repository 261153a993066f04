/-
  join on roots; nodeOf on trees: what splitAt is made of.
-/
import Derived.Test.YbulkbrzkJoin3
namespace Go.Proofs.Ybulkbrzk.BT
open Go Go.RowKit
set_option linter.unusedVariables false

theorem join_root (tb g N : Nat) (l r : Root) (k : ByteArray) (v : Int) (w : World) (h1 : l.height ≤ 4000) (h2 : r.height ≤ 4000) (hg : w.cell? ⟨tb, 1, none⟩ = some (.int .u64 g)) (htb : tb ∉ l.fp g ++ r.fp g) (hN : N ≤ w.heap.size) (hl : RTree g N w l) (hr : RTree g N w r) (hnd : (l.fp g ++ r.fp g).Nodup) (hlen : (l.flat ++ (k, v) :: r.flat).length ≤ 4000) (hS : Sorted (l.flat ++ (k, v) :: r.flat)) :
    Calls Yba.prog 32 #[.pointer (some ⟨tb, 0, none⟩), .pointer l.pa, .agg #[.string k, .int .i64 v], .pointer r.pa] w (JoinedPost g N l r k v w) := by
  cases l with
  | none => exact join_nil tb g N none r k v w (.inl rfl) hg hN hl hr hnd hlen hS
  | some lt =>
    cases r with
    | none => exact join_nil tb g N (some lt) none k v w (.inr rfl) hg hN hl hr hnd hlen hS
    | some rt => exact join_both tb g N lt.2 rt.2 k v w h1 h2 hg htb hN hl hr hnd hlen

/-- what nodeOf does -/
def PartPost (g N h : Nat) (F0 : List Nat) (flat0 : List E) (w : World) (e : Ending) (w' : World) : Prop :=
  ∃ r : Root, e = .returned (.pointer r.pa) ∧ r.height ≤ h ∧ r.flat = flat0 ∧ RTree g N w' r ∧ Grow F0 w w' (r.fp g) ∧ Fr (fun _ => False) w w'

theorem part_leaf (tb g N eb o cap : Nat) (a : Option Addr) (es : List E) (w : World) (hg : w.cell? ⟨tb, 1, none⟩ = some (.int .u64 g)) (hN : N ≤ w.heap.size) (ha : es ≠ [] → a = some ⟨eb, o, none⟩) (hc : ∀ j u, (es.flatMap eCells)[j]? = some u → w.cell? ⟨eb, o + j, none⟩ = some u) (hl : es.length ≤ 4000) :
    Calls Yba.prog 31 #[.pointer (some ⟨tb, 0, none⟩), .slice a es.length cap, .slice none 0 0] w (PartPost g N 0 [] es w) := by
  cases es with
  | nil =>
    refine (nodeOf_nil tb cap a w).mono ?_
    rintro e w' ⟨rfl, rfl⟩
    exact ⟨none, rfl, Nat.le_refl _, rfl, trivial, Grow.still (Fr.refl _ _) (fun x hx => by cases hx) (by simp), Fr.refl _ _⟩
  | cons e0 es0 =>
    rw [ha (by simp)]
    refine (nodeOf_in tb g eb o cap 0 0 0 (e0 :: es0) none w hg (by simp) hc (by omega) (fun l h => by cases h)).mono ?_
    rintro e w' ⟨n', rfl, g1, e1, n1, f1, d1, hF⟩
    have hT : Tree g N w' (h := 0) n' := by
      refine ⟨?_, lies_of g1 (Nat.le_trans hN f1.1) (Nat.le_trans hN f1.2.1) (fun h => by cases h)⟩
      rw [e1]
      exact n1
    refine ⟨some ⟨0, n'⟩, rfl, Nat.le_refl _, e1, hT, ?_, hF⟩
    have := Grow.more (F := []) (Z := n'.own g false) hF (fun x hx => by cases hx) (by simp) (fun z hz => ⟨own_new f1 z hz, (hT.fp_lt z hz).2⟩) (own_nodup ⟨d1.1, fun h => by cases h⟩)
    rw [List.append_nil] at this
    exact this

theorem part_kids {h : Nat} (tb g N eb o cap kb ko kcap : Nat) (a : Option Addr) (es : List E) (ks : List (GT h)) (w : World) (hg : w.cell? ⟨tb, 1, none⟩ = some (.int .u64 g)) (hN : N ≤ w.heap.size) (ha : es ≠ [] → a = some ⟨eb, o, none⟩) (hc : ∀ j u, (es.flatMap eCells)[j]? = some u → w.cell? ⟨eb, o + j, none⟩ = some u)
    (hlen : ks.length = es.length + 1) (hk : ∀ (j : Nat) (k : GT h), ks[j]? = some k → w.cell? ⟨kb, ko + j, none⟩ = some (.pointer (some ⟨k.nd.b, 0, none⟩)) ∧ Tree g N w k) (hnd : (ks.flatMap (GT.fp g)).Nodup) (hl : (weave (ks.map GT.flat) es).length ≤ 4000) :
    Calls Yba.prog 31 #[.pointer (some ⟨tb, 0, none⟩), .slice a es.length cap, .slice (some ⟨kb, ko, none⟩) ks.length kcap] w (PartPost g N (h + 1) (ks.flatMap (GT.fp g)) (weave (ks.map GT.flat) es) w) := by
  have hT : ∀ k, k ∈ ks → Tree g N w k := fun k hkm => by
    obtain ⟨j, hj, e⟩ := List.getElem_of_mem hkm
    exact (hk j k (by rw [List.getElem?_eq_getElem hj, e])).2
  have hltf : ∀ x, x ∈ ks.flatMap (GT.fp g) → x < w.heap.size := fun x hx => by
    obtain ⟨k, hkm, hx⟩ := List.mem_flatMap.1 hx
    exact ((hT k hkm).fp_lt x hx).2
  have hw1 := weave_length (ks.map GT.flat) es (by rw [List.length_map]; exact hlen)
  have hw2 := weave_bytes (ks.map GT.flat) es (by rw [List.length_map]; exact hlen)
  cases es with
  | nil =>
    obtain ⟨K, hK⟩ : ∃ K, ks = [K] := by
      cases ks with
      | nil => simp at hlen
      | cons K ks' =>
        simp at hlen
        exact ⟨K, by rw [hlen]⟩
    subst hK
    obtain ⟨hp, hTK⟩ := hk 0 K rfl
    rw [Nat.add_zero] at hp
    refine (nodeOf_one tb cap kb ko 1 kcap a _ w hp (by omega)).mono ?_
    rintro e w' ⟨rfl, rfl⟩
    refine ⟨some ⟨h, K⟩, rfl, Nat.le_succ _, by simp [Root.flat, weave], hTK, ?_, Fr.refl _ _⟩
    have e1 : ([K] : List (GT h)).flatMap (GT.fp g) = K.fp g := by simp
    rw [e1] at hnd hltf ⊢
    exact Grow.still (Fr.refl _ _) hltf hnd
  | cons e0 es0 =>
    rw [ha (by simp)]
    rw [lens_map] at hw1
    rw [byts_map] at hw2
    obtain ⟨KL, hKL⟩ : ∃ KL : List (Nat × Nat × Nat), KL = ks.map fun k => (k.nd.b, k.flat.length, bytes k.flat) := ⟨_, rfl⟩
    have hKLl : KL.length = ks.length := by rw [hKL, List.length_map]
    rw [← hKL] at hw1 hw2
    have hes : (e0 :: es0).length ≤ 4096 := by omega
    have hkk : ∀ l, some KL = some l → l.length ≤ 4097 ∧ ksz l ≤ 8192 ∧ ∀ (j : Nat) (c : Nat × Nat × Nat), l[j]? = some c → w.cell? ⟨kb, ko + j, none⟩ = some (.pointer (some ⟨c.1, 0, none⟩)) ∧ ∃ g' ev' kv', w.heap[c.1]? = some (nodeObj g' c.2.1 (wr c.2.2) ev' kv') := fun l hl' => by
      cases hl'
      refine ⟨by omega, by omega, fun j c hjc => ?_⟩
      rw [hKL, List.getElem?_map, Option.map_eq_some_iff] at hjc
      obtain ⟨k, hk1, rfl⟩ := hjc
      obtain ⟨hp, hTk⟩ := hk j k hk1
      obtain ⟨cc, kk, hn, _⟩ := hTk.at
      exact ⟨hp, _, _, _, hn⟩
    have hno := nodeOf_in tb g eb o cap kb ko kcap (e0 :: es0) (some KL) w hg (by simp) hc hes hkk
    have hkv : kval kb ko kcap (some KL) = .slice (some ⟨kb, ko, none⟩) ks.length kcap := by rw [← hKLl]; rfl
    rw [hkv] at hno
    refine hno.mono ?_
    · rintro e w' ⟨n', rfl, g1, e1, n1, f1, d1, hF⟩
      have hT' : Tree g N w' (nk n' ks) := by
        refine ⟨?_, by show ks.length = n'.es.length + 1; rw [e1]; exact hlen, lies_of g1 (Nat.le_trans hN f1.1) (Nat.le_trans hN f1.2.1) (fun _ => Nat.le_trans hN f1.2.2), fun h => (h g1).elim, fun k hkm => (hT k hkm).still hF⟩
        show NodeAt w' n' (weave (ks.map GT.flat) n'.es).length (wr (bytes (weave (ks.map GT.flat) n'.es))) (some (ks.map fun k => k.nd.b))
        rw [e1, hw1, hw2]
        have n1' : NodeAt w' n' ((e0 :: es0).length + ksz KL : Nat) (wr (bytes (e0 :: es0) + kby KL : Nat)) (some (KL.map (·.1))) := n1
        have hb : KL.map (·.1) = ks.map fun k => k.nd.b := by rw [hKL, kids_bs]
        rw [hb] at n1'
        exact n1'
      refine ⟨some ⟨h + 1, nk n' ks⟩, rfl, Nat.le_refl _, by show weave (ks.map GT.flat) n'.es = _; rw [e1], hT', ?_, hF⟩
      exact Grow.more (Z := n'.own g true) hF hltf hnd (fun z hz => ⟨own_new f1 z hz, (hT'.fp_lt z (List.mem_append.2 (.inl hz))).2⟩) (own_nodup ⟨d1.1, fun _ => d1.2⟩)
end Go.Proofs.Ybulkbrzk.BT
