/-
  A kid split: the plain laws.
-/
import Derived.Test.YbulkbrzkKid2
namespace Go.Proofs.Ybulkbrzk.BT
open Go Go.RowKit
set_option linter.unusedVariables false

theorem take_mid (es : List E) (a : Nat) (e : E) (ha : a ≤ es.length) : (es.take a ++ e :: es.drop a).take a = es.take a ∧ (es.take a ++ e :: es.drop a).drop a = e :: es.drop a ∧ (es.take a ++ e :: es.drop a).take (a + 1) = es.take a ++ [e] ∧ (es.take a ++ e :: es.drop a).drop (a + 1) = es.drop a := by
  have hl : (es.take a).length = a := by rw [List.length_take]; omega
  refine ⟨?_, ?_, ?_, ?_⟩
  · rw [List.take_append_of_le_length (by omega), List.take_of_length_le (by omega)]
  · rw [List.drop_append_of_le_length (by omega), List.drop_eq_nil_of_le (by omega), List.nil_append]
  · rw [List.take_append, hl, List.take_of_length_le (by omega)]
    simp
  · rw [List.drop_append, hl, List.drop_eq_nil_of_le (by omega)]
    simp
theorem keyAt_mid (es : List E) (a : Nat) (k : ByteArray) (v : Int) (ha : a ≤ es.length) : keyAt (es.take a ++ (k, v) :: es.drop a) a = k := by
  unfold keyAt
  rw [List.getElem?_append_right (by rw [List.length_take]; omega)]
  rw [show a - (es.take a).length = 0 from by rw [List.length_take]; omega]
  rfl

theorem low_R {h : Nat} {A B : List (GT h)} {L R : GT h} {es : List E} {k key : ByteArray} {v : Int} (ha : A.length ≤ es.length) (hlow : ∀ x, x ∈ fore (A.map GT.flat) (es.take A.length) → Lt x.1 key) (hk : Lt k key) (hS : Sorted (fore (A.map GT.flat) (es.take A.length) ++ (L.flat ++ (k, v) :: (R.flat ++ aft (es.drop A.length) (B.map GT.flat))))) :
    ∀ x, x ∈ fore ((A ++ [L]).map GT.flat) ((es.take A.length ++ (k, v) :: es.drop A.length).take (A ++ [L]).length) → Lt x.1 key := by
  intro x hx
  rw [List.length_append, List.length_singleton, (take_mid es A.length (k, v) ha).2.2.1, List.map_append, fore_append _ _ _ _ (by rw [List.length_map, List.length_take]; omega)] at hx
  rcases List.mem_append.1 hx with hx | hx
  · exact hlow x hx
  · simp only [List.map_cons, List.map_nil, fore, List.mem_append, List.mem_singleton] at hx
    rcases hx with hx | rfl
    · exact (hS.right.cross hx (y := (k, v)) (by simp)).trans hk
    · exact hk
theorem high_R {h : Nat} {A B : List (GT h)} {L : GT h} {es : List E} {k key : ByteArray} {v : Int} (ha : A.length ≤ es.length) (hhigh : ∀ x, x ∈ aft (es.drop A.length) (B.map GT.flat) → Lt key x.1) :
    ∀ x, x ∈ aft ((es.take A.length ++ (k, v) :: es.drop A.length).drop (A ++ [L]).length) (B.map GT.flat) → Lt key x.1 := by
  rw [List.length_append, List.length_singleton, (take_mid es A.length (k, v) ha).2.2.2]
  exact hhigh
theorem low_L {h : Nat} {A : List (GT h)} {es : List E} {k key : ByteArray} {v : Int} (ha : A.length ≤ es.length) (hlow : ∀ x, x ∈ fore (A.map GT.flat) (es.take A.length) → Lt x.1 key) :
    ∀ x, x ∈ fore (A.map GT.flat) ((es.take A.length ++ (k, v) :: es.drop A.length).take A.length) → Lt x.1 key := by
  rw [(take_mid es A.length (k, v) ha).1]
  exact hlow
theorem high_L {h : Nat} {A B : List (GT h)} {L R : GT h} {es : List E} {k key : ByteArray} {v : Int} (ha : A.length ≤ es.length) (hhigh : ∀ x, x ∈ aft (es.drop A.length) (B.map GT.flat) → Lt key x.1) (hk : Lt key k) (hS : Sorted (fore (A.map GT.flat) (es.take A.length) ++ (L.flat ++ (k, v) :: (R.flat ++ aft (es.drop A.length) (B.map GT.flat))))) :
    ∀ x, x ∈ aft ((es.take A.length ++ (k, v) :: es.drop A.length).drop A.length) ((R :: B).map GT.flat) → Lt key x.1 := by
  intro x hx
  rw [(take_mid es A.length (k, v) ha).2.1, List.map_cons] at hx
  simp only [aft, List.mem_cons, List.mem_append] at hx
  rcases hx with rfl | hx | hx
  · exact hk
  · have := List.pairwise_cons.1 hS.right.right
    exact hk.trans (this.1 x (List.mem_append.2 (.inl hx)))
  · exact hhigh x hx
theorem ins_ptrs {h : Nat} (A B : List (GT h)) (K L R : GT h) (hb : L.nd.b = K.nd.b) : (ptrs ((A ++ K :: B).map fun k => k.nd.b)).take (A.length + 1) ++ [.pointer (some ⟨R.nd.b, 0, none⟩)] ++ (ptrs ((A ++ K :: B).map fun k => k.nd.b)).drop (A.length + 1) = ptrs ((A ++ L :: R :: B).map fun k => k.nd.b) := by
  have e1 : ptrs ((A ++ K :: B).map fun k => k.nd.b) = (ptrs (A.map fun k => k.nd.b) ++ [.pointer (some ⟨K.nd.b, 0, none⟩)]) ++ ptrs (B.map fun k => k.nd.b) := by simp [ptrs]
  have hl : (ptrs (A.map fun k => k.nd.b) ++ [Value.pointer (some ⟨K.nd.b, 0, none⟩)]).length = A.length + 1 := by simp [ptrs]
  rw [e1, List.take_append_of_le_length (by omega), List.take_of_length_le (by omega), List.drop_append_of_le_length (by omega), List.drop_eq_nil_of_le (by omega)]
  simp [ptrs, hb]
end Go.Proofs.Ybulkbrzk.BT
