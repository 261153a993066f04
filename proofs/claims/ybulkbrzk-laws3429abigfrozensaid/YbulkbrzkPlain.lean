/-
  The plain laws: a tree's entries in order, the insertion, the own blocks.
-/
import Derived.Test.YbulkbrzkSearch
namespace Go.Proofs.Ybulkbrzk.BT
open Go
set_option linter.unusedVariables false

/-- kids and entries by turns, an entry last -/
def fore : List (List E) → List E → List E
  | a :: l, e :: es => a ++ e :: fore l es
  | _, _ => []
/-- entries and kids by turns, a kid last -/
def aft : List E → List (List E) → List E
  | e :: es, k :: ks => e :: (k ++ aft es ks)
  | _, _ => []

theorem weave_aft : ∀ (K : List E) (B : List (List E)) (Q : List E), B.length = Q.length → weave (K :: B) Q = K ++ aft Q B
  | K, [], [], _ => by simp [weave, aft]
  | K, b :: B, q :: Q, h => by
    have := weave_aft b B Q (by simpa using h)
    simp [weave, aft, this]
  | K, b :: B, [], h => by simp at h
  | K, [], q :: Q, h => by simp at h

theorem weave_split : ∀ (A : List (List E)) (K : List E) (B : List (List E)) (P Q : List E), A.length = P.length → B.length = Q.length → weave (A ++ K :: B) (P ++ Q) = fore A P ++ (K ++ aft Q B)
  | [], K, B, [], Q, _, h => by simpa [fore] using weave_aft K B Q h
  | a :: A, K, B, p :: P, Q, h1, h2 => by
    have := weave_split A K B P Q (by simpa using h1) h2
    simp [weave, fore, this]
  | [], K, B, p :: P, Q, h, _ => by simp at h
  | a :: A, K, B, [], Q, h, _ => by simp at h

theorem fore_append : ∀ (A A' : List (List E)) (P P' : List E), A.length = P.length → fore (A ++ A') (P ++ P') = fore A P ++ fore A' P'
  | [], A', [], P', _ => by simp [fore]
  | a :: A, A', p :: P, P', h => by
    have := fore_append A A' P P' (by simpa using h)
    simp [fore, this]
  | [], _, p :: P, _, h => by simp at h
  | a :: A, _, [], _, h => by simp at h

/-- the lengths of the kids, and their bytes -/
def lens (ks : List (List E)) : Nat := (ks.map List.length).sum
def byts (ks : List (List E)) : Nat := (ks.map bytes).sum

theorem weave_length : ∀ (ks : List (List E)) (es : List E), ks.length = es.length + 1 → (weave ks es).length = es.length + lens ks
  | [], es, h => by simp at h
  | [a], [], h => by simp [weave, lens]
  | a :: b :: l, [], h => by simp at h
  | a :: l, e :: es, h => by
    have := weave_length l es (by simpa using h)
    simp [weave, lens] at this ⊢
    omega

theorem weave_bytes : ∀ (ks : List (List E)) (es : List E), ks.length = es.length + 1 → bytes (weave ks es) = bytes es + byts ks
  | [], es, h => by simp at h
  | [a], [], h => by simp [weave, byts, bytes]
  | a :: b :: l, [], h => by simp at h
  | a :: l, e :: es, h => by
    have := weave_bytes l es (by simpa using h)
    simp [weave, byts, bytes, bytes_append] at this ⊢
    omega

theorem weave_sub : ∀ (ks : List (List E)) (es : List E), es.Sublist (weave ks es)
  | [], es => by simp [weave]
  | a :: l, [] => by simp
  | a :: l, e :: es => by
    simp only [weave]
    exact ((weave_sub l es).cons_cons e).trans (List.sublist_append_right _ _)

theorem Sorted.es {ks : List (List E)} {es : List E} (h : Sorted (weave ks es)) : Sorted es := List.Pairwise.sublist (weave_sub ks es) h
theorem Sorted.left {a b : List E} (h : Sorted (a ++ b)) : Sorted a := (List.pairwise_append.1 h).1
theorem Sorted.right {a b : List E} (h : Sorted (a ++ b)) : Sorted b := (List.pairwise_append.1 h).2.1
theorem Sorted.cross {a b : List E} (h : Sorted (a ++ b)) {x y : E} (hx : x ∈ a) (hy : y ∈ b) : Lt x.1 y.1 := (List.pairwise_append.1 h).2.2 x hx y hy

theorem fore_below : ∀ (A : List (List E)) (P : List E), Sorted (fore A P) → ∀ x, x ∈ fore A P → ∃ e, e ∈ P ∧ (x = e ∨ Lt x.1 e.1)
  | [], P, _, x, hx => by simp [fore] at hx
  | a :: A, [], _, x, hx => by simp [fore] at hx
  | a :: A, p :: P, h, x, hx => by
    simp only [fore] at h hx
    rcases List.mem_append.1 hx with hx | hx
    · exact ⟨p, by simp, .inr (h.cross hx (by simp))⟩
    · rcases List.mem_cons.1 hx with rfl | hx
      · exact ⟨x, by simp, .inl rfl⟩
      · obtain ⟨e, he, h'⟩ := fore_below A P (List.Pairwise.of_cons h.right) x hx
        exact ⟨e, by simp [he], h'⟩

theorem aft_above : ∀ (Q : List E) (B : List (List E)), Sorted (aft Q B) → ∀ x, x ∈ aft Q B → ∃ e, e ∈ Q ∧ (x = e ∨ Lt e.1 x.1)
  | [], B, _, x, hx => by simp [aft] at hx
  | q :: Q, [], _, x, hx => by simp [aft] at hx
  | q :: Q, b :: B, h, x, hx => by
    simp only [aft] at h hx
    rcases List.mem_cons.1 hx with rfl | hx'
    · exact ⟨x, by simp, .inl rfl⟩
    · exact ⟨q, by simp, .inr ((List.pairwise_cons.1 h).1 x hx')⟩

/-- the insertion into a sorted list -/
def ins (k : ByteArray) (v : Int) : List E → List E
  | [] => [(k, v)]
  | e :: l => if e.1 = k then (k, v) :: l else if Op.bytesLess k.toList e.1.toList = true then (k, v) :: e :: l else e :: ins k v l

open Classical in
theorem ins_cons (k : ByteArray) (v : Int) (e : E) (l : List E) : ins k v (e :: l) = if e.1 = k then (k, v) :: l else if Lt k e.1 then (k, v) :: e :: l else e :: ins k v l := by
  rw [ins]
  by_cases h : e.1 = k
  · rw [if_pos h, if_pos h]
  · rw [if_neg h, if_neg h]
    by_cases h2 : Lt k e.1
    · rw [if_pos (show Op.bytesLess k.toList e.1.toList = true from h2), if_pos h2]
    · rw [if_neg (show ¬ Op.bytesLess k.toList e.1.toList = true from h2), if_neg h2]

theorem ins_low {k : ByteArray} {v : Int} : ∀ (X Y : List E), (∀ x, x ∈ X → Lt x.1 k) → ins k v (X ++ Y) = X ++ ins k v Y
  | [], Y, _ => rfl
  | x :: X, Y, h => by
    have h1 := h x (by simp)
    rw [List.cons_append, ins_cons, if_neg h1.ne, if_neg (fun h2 => h1.asymm h2), ins_low X Y (fun y hy => h y (by simp [hy])), List.cons_append]

theorem ins_high {k : ByteArray} {v : Int} : ∀ (X Y : List E), (∀ y, y ∈ Y → Lt k y.1) → ins k v (X ++ Y) = ins k v X ++ Y
  | [], [], _ => rfl
  | [], y :: Y, h => by
    have h1 := h y (by simp)
    have h2 : ins k v (y :: Y) = (k, v) :: y :: Y := by rw [ins_cons, if_neg (fun e => h1.ne e.symm), if_pos h1]
    exact h2
  | x :: X, Y, h => by
    rw [List.cons_append, ins_cons, ins_cons]
    split
    · rfl
    · split
      · rfl
      · rw [ins_high X Y h]; rfl

theorem ins_hit {k : ByteArray} {v : Int} {e : E} {Y : List E} (h : e.1 = k) : ins k v (e :: Y) = (k, v) :: Y := by rw [ins_cons, if_pos h]

theorem mem_ins {k : ByteArray} {v : Int} {x : E} : ∀ {l : List E}, x ∈ ins k v l → x = (k, v) ∨ x ∈ l
  | [], h => by simp [ins] at h; exact .inl h
  | e :: l, h => by
    rw [ins_cons] at h
    split at h
    · rcases List.mem_cons.1 h with h | h
      · exact .inl h
      · exact .inr (by simp [h])
    · split at h
      · rcases List.mem_cons.1 h with h | h
        · exact .inl h
        · exact .inr h
      · rcases List.mem_cons.1 h with h | h
        · exact .inr (by simp [h])
        · rcases mem_ins h with h | h
          · exact .inl h
          · exact .inr (by simp [h])

theorem ins_sorted {k : ByteArray} {v : Int} : ∀ {l : List E}, Sorted l → Sorted (ins k v l)
  | [], h => by simp [ins, Sorted]
  | e :: l, h => by
    have h1 := List.pairwise_cons.1 h
    rw [ins_cons]
    split
    · rename_i he
      subst he
      exact List.pairwise_cons.2 ⟨h1.1, h1.2⟩
    · split
      · rename_i hne hlt
        refine List.pairwise_cons.2 ⟨fun x hx => ?_, h⟩
        rcases List.mem_cons.1 hx with rfl | hx
        · exact hlt
        · exact Lt.trans hlt (h1.1 x hx)
      · rename_i hne hlt
        refine List.pairwise_cons.2 ⟨fun x hx => ?_, ins_sorted h1.2⟩
        rcases mem_ins hx with rfl | hx
        · exact Lt.total hlt (fun h => hne h.symm)
        · exact h1.1 x hx

/-- WHAT A STEP DOES TO THE OWN BLOCKS: only F's have turned; the new ones F' are of F or new. -/
structure Grow (F : List Nat) (w w' : World) (F' : List Nat) : Prop where
  fr : Fr (· ∈ F) w w'
  sub : ∀ x, x ∈ F' → x ∈ F ∨ w.heap.size ≤ x
  lt : ∀ x, x ∈ F' → x < w'.heap.size
  nd : F'.Nodup

theorem Grow.same {F : List Nat} {w w' : World} {S : Nat → Prop} (h : Fr S w w') (hs : ∀ i, i < w.heap.size → S i → i ∈ F) (hl : ∀ x, x ∈ F → x < w.heap.size) (hn : F.Nodup) : Grow F w w' F :=
  ⟨h.mono hs, fun x hx => .inl hx, fun x hx => Nat.lt_of_lt_of_le (hl x hx) h.size, hn⟩

theorem Grow.trans {F F' F'' : List Nat} {a b c : World} (h : Grow F a b F') (k : Grow F' b c F'') : Grow F a c F'' :=
  ⟨h.fr.trans k.fr (fun i hi hm => (h.sub i hm).elim id (fun h' => by omega)),
   fun x hx => (k.sub x hx).elim (fun h' => h.sub x h') (fun h' => .inr (Nat.le_trans h.fr.size h')), k.lt, k.nd⟩

theorem Grow.less {F F' F'' : List Nat} {w w' : World} (h : Grow F w w' F') (hs : ∀ x, x ∈ F'' → x ∈ F') (hn : F''.Nodup) : Grow F w w' F'' :=
  ⟨h.fr, fun x hx => h.sub x (hs x hx), fun x hx => h.lt x (hs x hx), hn⟩
theorem Grow.perm {F F' F'' : List Nat} {w w' : World} (h : Grow F w w' F') (hp : F'.Perm F'') : Grow F w w' F'' :=
  h.less (fun x hx => hp.mem_iff.2 hx) (hp.nodup_iff.1 h.nd)
theorem Grow.from {F G F' : List Nat} {w w' : World} (h : Grow F w w' F') (hs : ∀ x, x ∈ F → x ∈ G) : Grow G w w' F' :=
  ⟨h.fr.mono (fun i _ hi => hs i hi), fun x hx => (h.sub x hx).elim (fun h' => .inl (hs x h')) (fun h' => .inr h'), h.lt, h.nd⟩

/-- a step inside: the rest stands -/
theorem Grow.ctx {F F' X Y : List Nat} {w w' : World} (h : Grow F w w' F') (hn : (X ++ F ++ Y).Nodup) (hl : ∀ x, x ∈ X ∨ x ∈ Y → x < w.heap.size) : Grow (X ++ F ++ Y) w w' (X ++ F' ++ Y) := by
  refine ⟨h.fr.mono (fun i _ hi => by simp [hi]), fun x hx => ?_, fun x hx => ?_, ?_⟩
  · simp only [List.mem_append] at hx ⊢
    rcases hx with (hx | hx) | hx
    · exact .inl (.inl (.inl hx))
    · exact (h.sub x hx).elim (fun h' => .inl (.inl (.inr h'))) (fun h' => .inr h')
    · exact .inl (.inr hx)
  · simp only [List.mem_append] at hx
    rcases hx with (hx | hx) | hx
    · exact Nat.lt_of_lt_of_le (hl x (.inl hx)) h.fr.size
    · exact h.lt x hx
    · exact Nat.lt_of_lt_of_le (hl x (.inr hx)) h.fr.size
  · rw [List.nodup_append] at hn ⊢
    obtain ⟨h1, h2, h3⟩ := hn
    rw [List.nodup_append] at h1 ⊢
    obtain ⟨h4, h5, h6⟩ := h1
    refine ⟨⟨h4, h.nd, fun a ha b hb e => ?_⟩, h2, fun a ha b hb e => ?_⟩
    · subst e
      rcases h.sub a hb with h' | h'
      · exact h6 a ha a h' rfl
      · have := hl a (.inl ha); omega
    · subst e
      rcases List.mem_append.1 ha with ha | ha
      · exact h3 a (by simp [ha]) a hb rfl
      · rcases h.sub a ha with h' | h'
        · exact h3 a (by simp [h']) a hb rfl
        · have := hl a (.inr hb); omega

/-- one block gives way to another, the same or a new one -/
theorem Grow.swap {X Y : List Nat} {a a' : Nat} {w w' : World} {S : Nat → Prop} (h : Fr S w w') (hs : ∀ i, i < w.heap.size → S i → i ∈ X ++ [a] ++ Y) (hl : ∀ x, x ∈ X ++ [a] ++ Y → x < w.heap.size) (hn : (X ++ [a] ++ Y).Nodup) (ha : a' = a ∨ (w.heap.size ≤ a' ∧ a' < w'.heap.size)) : Grow (X ++ [a] ++ Y) w w' (X ++ [a'] ++ Y) := by
  have hg : Grow [a] w w [a'] ∨ a' ≠ a := by
    by_cases e : a' = a
    · subst e; exact .inl (Grow.same (Fr.refl (fun _ => False) w) (fun _ _ h => h.elim) (fun x hx => hl x (by simp at hx; simp [hx])) (by simp))
    · exact .inr e
  by_cases e : a' = a
  · subst e; exact Grow.same h hs hl hn
  · have ha' : w.heap.size ≤ a' ∧ a' < w'.heap.size := ha.resolve_left e
    refine ⟨h.mono hs, fun x hx => ?_, fun x hx => ?_, ?_⟩
    · simp only [List.mem_append, List.mem_singleton] at hx ⊢
      rcases hx with (hx | rfl) | hx
      · exact .inl (.inl (.inl hx))
      · exact .inr ha'.1
      · exact .inl (.inr hx)
    · simp only [List.mem_append, List.mem_singleton] at hx
      rcases hx with (hx | rfl) | hx
      · exact Nat.lt_of_lt_of_le (hl x (by simp [hx])) h.size
      · exact ha'.2
      · exact Nat.lt_of_lt_of_le (hl x (by simp [hx])) h.size
    · rw [List.nodup_append] at hn ⊢
      obtain ⟨h1, h2, h3⟩ := hn
      rw [List.nodup_append] at h1 ⊢
      obtain ⟨h4, h5, h6⟩ := h1
      refine ⟨⟨h4, by simp, fun x hx b hb e' => ?_⟩, h2, fun x hx b hb e' => ?_⟩
      · simp at hb; subst hb; subst e'
        have := hl x (by simp [hx]); omega
      · subst e'
        rcases List.mem_append.1 hx with hx | hx
        · exact h3 x (by simp [hx]) x hb rfl
        · simp at hx; subst hx
          have := hl x (by simp [hb]); omega
end Go.Proofs.Ybulkbrzk.BT
