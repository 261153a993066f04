/-
  insert beneath a kid: the plain end.
-/
import Derived.Test.YbulkbrzkKid
import Derived.Test.YbulkbrzkCmp
namespace Go.Proofs.Ybulkbrzk.BT
open Go Go.RowKit
set_option linter.unusedVariables false

section
variable {g N h : Nat} {n : Nd} {A B : List (GT h)} {K : GT h}

theorem focus_flat (hl : (A ++ K :: B).length = n.es.length + 1) : (nk n (A ++ K :: B)).flat = fore (A.map GT.flat) (n.es.take A.length) ++ (K.flat ++ aft (n.es.drop A.length) (B.map GT.flat)) := by
  rw [List.length_append, List.length_cons] at hl
  have e2 : (n.es.take A.length).length = A.length := by rw [List.length_take]; omega
  have e3 : (n.es.drop A.length).length = B.length := by rw [List.length_drop]; omega
  have w2 := weave_split (A.map GT.flat) K.flat (B.map GT.flat) (n.es.take A.length) (n.es.drop A.length) (by rw [List.length_map, e2]) (by rw [List.length_map, e3])
  rw [List.take_append_drop] at w2
  have m2 : (A ++ K :: B).map GT.flat = A.map GT.flat ++ K.flat :: B.map GT.flat := by simp
  show weave ((A ++ K :: B).map GT.flat) n.es = _
  rw [m2, w2]

/-- what lies beneath and beside, by the key's place -/
theorem focus_low {key : ByteArray} {f : Bool} (hl : (A ++ K :: B).length = n.es.length + 1) (hS : Sorted (nk n (A ++ K :: B)).flat) (hp : Place n.es key A.length f) : ∀ x, x ∈ fore (A.map GT.flat) (n.es.take A.length) → Lt x.1 key := by
  intro x hx
  rw [focus_flat hl] at hS
  obtain ⟨e, he, h⟩ := fore_below _ _ hS.left x hx
  have := hp.below e he
  rcases h with rfl | h
  · exact this
  · exact h.trans this
theorem focus_high {key : ByteArray} (hl : (A ++ K :: B).length = n.es.length + 1) (hS : Sorted (nk n (A ++ K :: B)).flat) (hp : Place n.es key A.length false) : ∀ x, x ∈ aft (n.es.drop A.length) (B.map GT.flat) → Lt key x.1 := by
  intro x hx
  rw [focus_flat hl] at hS
  obtain ⟨e, he, h⟩ := aft_above _ _ hS.right.right x hx
  have := hp.above e he
  rcases h with rfl | h
  · exact this
  · exact this.trans h

theorem end_kid {key : ByteArray} {v : Int} {K' : GT h} {W W1 W3 : World} {cap kcap : Nat} {ad : Bool} {gr : Int} (hT : Tree g N W (nk n (A ++ K :: B))) (hgen : n.gen = g) (hnd : ((nk n (A ++ K :: B)).fp g).Nodup)
    (hlow : ∀ x, x ∈ fore (A.map GT.flat) (n.es.take A.length) → Lt x.1 key) (hhigh : ∀ x, x ∈ aft (n.es.drop A.length) (B.map GT.flat) → Lt key x.1)
    (q1 : K'.nd.b = K.nd.b) (q3 : K'.flat = ins key v K.flat) (q4 : Tree g N W1 K') (q5 : Grow (K.fp g) W W1 (K'.fp g))
    (q6 : (ad = true ∧ gr = key.size ∧ K'.flat.length = K.flat.length + 1 ∧ bytes K'.flat = bytes K.flat + key.size) ∨ (ad = false ∧ gr = 0 ∧ K'.flat.length = K.flat.length ∧ bytes K'.flat = bytes K.flat))
    (he : W.ownsRow 0 30 2 (.slice (some ⟨n.eb, 0, none⟩) n.es.length cap) n.es.length (n.es.flatMap eCells)) (hk : W.ownsRow 0 23 1 (.slice (some ⟨n.kb, 0, none⟩) (A ++ K :: B).length kcap) (A ++ K :: B).length (ptrs ((A ++ K :: B).map fun k => k.nd.b)))
    (hF : Fr (fun j => j = n.b) W1 W3)
    (hb : W3.heap[n.b]? = some (nodeObj g ((nk n (A ++ K :: B)).flat.length + (if ad = true then 1 else 0) : Nat) (wr (bytes (nk n (A ++ K :: B)).flat + (if ad = true then key.size else 0) : Nat)) (.slice (some ⟨n.eb, 0, none⟩) n.es.length cap) (.slice (some ⟨n.kb, 0, none⟩) (A ++ K :: B).length kcap))) :
    InsPost g N key v (nk n (A ++ K :: B)) W (.returned (.tuple #[.bool ad, .int .i64 gr])) W3 := by
  have hl : (A ++ K :: B).length = n.es.length + 1 := hT.2.1
  have hl' : (A ++ K' :: B).length = n.es.length + 1 := by simpa using hl
  have f1 := focus_flat (K := K) hl
  have f2 := focus_flat (K := K') hl'
  have l1 : (nk n (A ++ K' :: B)).flat.length = (nk n (A ++ K :: B)).flat.length + (if ad = true then 1 else 0) ∧ bytes (nk n (A ++ K' :: B)).flat = bytes (nk n (A ++ K :: B)).flat + (if ad = true then key.size else 0) := by
    rw [f1, f2]
    simp only [List.length_append, bytes_append]
    rcases q6 with ⟨rfl, _, h1, h2⟩ | ⟨rfl, _, h1, h2⟩
    · simp only [if_true]; omega
    · simp only [Bool.false_eq_true, if_false]; omega
  rw [← l1.1, ← l1.2] at hb
  obtain ⟨T3, G3⟩ := grow_kid hT hgen hnd q4 q1 q5 hF he hk hb
  refine ⟨nk n (A ++ K' :: B), ad, gr, rfl, rfl, hgen, ?_, T3, G3, ?_⟩
  · rw [f1, f2, q3, ins_low _ _ hlow, ins_high _ _ hhigh]
  · rcases q6 with ⟨rfl, h0, h1, h2⟩ | ⟨rfl, h0, h1, h2⟩
    · exact .inl ⟨rfl, h0, l1.1, l1.2⟩
    · exact .inr ⟨rfl, h0, l1.1, l1.2⟩
end

theorem InsPost.after {g N : Nat} {key : ByteArray} {v : Int} {h : Nat} {t0 t : GT h} {w W W' : World} {e : Ending} (hp : InsPost g N key v t W e W') (hb : t.nd.b = t0.nd.b) (hf : t.flat = t0.flat) (G : Grow (t0.fp g) w W (t.fp g)) : InsPost g N key v t0 w e W' := by
  obtain ⟨t', ad, gr, h1, h2, h3, h4, h5, h6, h7⟩ := hp
  rw [hf] at h4 h7
  exact ⟨t', ad, gr, h1, h2.trans hb, h3, h4, h5, G.trans h6, h7⟩
end Go.Proofs.Ybulkbrzk.BT
