/-
  A kid joined with another tree: the node around it.
-/
import Derived.Test.YbulkbrzkJoinEq
namespace Go.Proofs.Ybulkbrzk.BT
open Go Go.RowKit
set_option linter.unusedVariables false

section
variable {g N h : Nat} {n : Nd} {A B : List (GT h)} {K : GT h}

theorem rejoin {KS : List (GT h)} {Fx : List Nat} {W W3 W4 W6 : World} {eb' kb' : Nat} {es' : List E} (hT : Tree g N W (nk n (A ++ K :: B))) (hgen : n.gen = g) (hnd : ((nk n (A ++ K :: B)).fp g ++ Fx).Nodup) (hFx : ∀ x, x ∈ Fx → N ≤ x ∧ x < W.heap.size)
    (hF3 : Fr (fun j => j = n.b) W W3) (G : Grow (K.fp g ++ Fx) W3 W4 (KS.flatMap (GT.fp g))) (hKS : ∀ k, k ∈ KS → Tree g N W4 k) (hF6 : Fr (fun j => j ∈ n.own g true) W4 W6)
    (heb : eb' = n.eb ∨ W4.heap.size ≤ eb') (hkb : kb' = n.kb ∨ W4.heap.size ≤ kb') (hne : eb' ≠ kb') (hN : N ≤ W.heap.size)
    (hat : NodeAt W6 ⟨n.b, eb', kb', n.gen, es'⟩ (nk ⟨n.b, eb', kb', n.gen, es'⟩ (A ++ (KS ++ B))).flat.length (wr (bytes (nk ⟨n.b, eb', kb', n.gen, es'⟩ (A ++ (KS ++ B))).flat)) (some ((A ++ (KS ++ B)).map fun k => k.nd.b)))
    (hlen : (A ++ (KS ++ B)).length = es'.length + 1) :
    Tree g N W6 (nk ⟨n.b, eb', kb', n.gen, es'⟩ (A ++ (KS ++ B))) ∧ Grow ((nk n (A ++ K :: B)).fp g ++ Fx) W W6 ((nk ⟨n.b, eb', kb', n.gen, es'⟩ (A ++ (KS ++ B))).fp g) := by
  have hnt := (List.nodup_append.1 hnd).1
  have hcr := (List.nodup_append.1 hnd).2.2
  have hfd := focus_nd hnt
  have hlt := fun x hx => (hT.fp_lt x hx)
  have hmo := mem_own (g := g) (kid := true) (n := n) hgen
  have hlie : n.lies g N true := hT.2.2.1
  unfold Nd.lies at hlie
  rw [if_pos hgen] at hlie
  have hown_fp : ∀ x, x ∈ n.own g true → x ∈ (nk n (A ++ K :: B)).fp g := fun x hx => List.mem_append.2 (.inl hx)
  have hK_fp : ∀ x, x ∈ K.fp g → x ∈ (nk n (A ++ K :: B)).fp g := fun x hx => by rw [focus_fp]; exact List.mem_append.2 (.inl (List.mem_append.2 (.inr hx)))
  have hk_fp : ∀ k x, k ∈ A ∨ k ∈ B → x ∈ k.fp g → x ∈ (nk n (A ++ K :: B)).fp g := fun k x hk hx => by
    refine List.mem_append.2 (.inr (List.mem_flatMap.2 ⟨k, ?_, hx⟩))
    show k ∈ A ++ K :: B
    rcases hk with hk | hk <;> simp [hk]
  have hz3 := hF3.size
  have hz4 := G.fr.size
  have hz6 := hF6.size
  obtain ⟨cap, kv, hb, he, kcap, hkv, hk⟩ := hat
  have hebl : eb' < W6.heap.size := (he.lt eb' rfl).2
  have hkbl : kb' < W6.heap.size := by
    have hkv' : kv = .slice (some ⟨kb', 0, none⟩) _ kcap := hkv
    rw [hkv'] at hk
    exact (hk.lt kb' rfl).2
  -- the frame of all
  have hFall : Fr (fun j => j ∈ n.own g true ∨ j ∈ K.fp g ∨ j ∈ Fx) W W6 := by
    refine ((hF3.mono (fun i hi h => by rw [h]; exact .inl hmo.1)).trans G.fr (fun i hi h => ?_)).trans hF6 (fun i hi h => .inl h)
    rcases List.mem_append.1 h with h | h
    · exact .inr (.inl h)
    · exact .inr (.inr h)
  have hKSn : ∀ x, x ∈ KS.flatMap (GT.fp g) → x ∉ n.own g true := fun x hx hm => by
    rcases G.sub x hx with h | h
    · rcases List.mem_append.1 h with h | h
      · exact hfd.2.1 x h hm
      · exact hcr x (hown_fp x hm) x h rfl
    · have := (hlt x (hown_fp x hm)).2
      omega
  have hoth : ∀ k, k ∈ A ∨ k ∈ B → Tree g N W6 k := fun k hk => by
    refine (hT.2.2.2.2 k (by show k ∈ A ++ K :: B; rcases hk with hk | hk <;> simp [hk])).fr hFall (fun i hi h => ?_) (fun x hx h => ?_)
    · rcases h with h | h | h
      · have := (hlt i (hown_fp i h)).1; omega
      · have := (hlt i (hK_fp i h)).1; omega
      · have := (hFx i h).1; omega
    · have := hfd.1 k hk x hx
      rcases h with h | h | h
      · exact this.1 h
      · exact this.2 h
      · exact hcr x (hk_fp k x hk hx) x h rfl
  refine ⟨⟨⟨cap, kv, hb, he, kcap, hkv, hk⟩, hlen, lies_of hgen hlie.1 (by show N ≤ eb'; have := hlie.2.1; omega) (fun _ => by show N ≤ kb'; have := hlie.2.2 rfl; omega), fun h => (h hgen).elim, fun k hkm => ?_⟩, ?_⟩
  · rcases List.mem_append.1 hkm with hm | hm
    · exact hoth k (.inl hm)
    · rcases List.mem_append.1 hm with hm | hm
      · exact (hKS k hm).fr hF6 (fun i hi h => by have := (hlt i (hown_fp i h)).1; omega) (fun x hx => hKSn x (List.mem_flatMap.2 ⟨k, hm, hx⟩))
      · exact hoth k (.inr hm)
  · -- the own blocks
    have g3 : Grow ((nk n (A ++ K :: B)).fp g ++ Fx) W W3 ((nk n (A ++ K :: B)).fp g ++ Fx) := Grow.same hF3 (fun i hi h => by rw [h]; exact List.mem_append.2 (.inl (hown_fp _ hmo.1))) (fun x hx => by
      rcases List.mem_append.1 hx with hx | hx
      · exact (hlt x hx).2
      · exact (hFx x hx).2) hnd
    have hperm : ((nk n (A ++ K :: B)).fp g ++ Fx).Perm ((n.own g true ++ (A.flatMap (GT.fp g) ++ B.flatMap (GT.fp g))) ++ (K.fp g ++ Fx) ++ []) := by
      rw [focus_fp, List.append_nil]
      simp only [List.append_assoc]
      refine List.Perm.append_left _ (List.Perm.append_left _ ?_)
      rw [← List.append_assoc, ← List.append_assoc]
      exact List.Perm.append_right _ List.perm_append_comm
    have g3' := g3.perm hperm
    have g4 := g3'.trans (Grow.ctx (X := n.own g true ++ (A.flatMap (GT.fp g) ++ B.flatMap (GT.fp g))) (Y := []) G g3'.nd (fun x hx => by
      rcases hx with hx | hx
      · exact g3'.lt x (List.mem_append.2 (.inl (List.mem_append.2 (.inl hx))))
      · cases hx))
    rw [List.append_nil, List.append_assoc] at g4
    have g6 := g4.trans (Grow.swap2 (n := n) (eb' := eb') (kb' := kb') (es' := es') _ hgen hF6 (fun i hi h => h) g4.lt g4.nd (by omega) (by omega) hne)
    refine g6.perm ?_
    show List.Perm _ (_ ++ (A ++ (KS ++ B)).flatMap (GT.fp g))
    rw [List.flatMap_append, List.flatMap_append]
    refine List.Perm.append_left _ ?_
    rw [List.append_assoc]
    exact List.Perm.append_left _ List.perm_append_comm
end
end Go.Proofs.Ybulkbrzk.BT
