/-
  A map that the call itself makes, told by a plain list of pairs: what look-up, store, delete and len do to it. Over whatever program; the keys by an encoding.
-/
import Derived.WalkKit
import Derived.ProofKit
import Derived.Laws.StructEq
import Derived.ChangeMaps5
import Derived.MapKept
import Derived.WideLaws
namespace Go.Proofs.YbulkbseuGreat.AM
open Go Go.MapKept
set_option linter.unusedSectionVars false
open Go.ChangeMaps (setBlock heap_setBlock_same heap_setBlock_other frozen?_setBlock)

section
variable {K : Type} [DecidableEq K]

/-- the first entry of that key, its place counted from i -/
def find : List (K × Value) → K → Nat → Option (Nat × Value)
  | [], _, _ => none
  | p :: r, k, i => if k = p.1 then some (i, p.2) else find r k (i + 1)

def get : List (K × Value) → K → Option Value
  | [], _ => none
  | p :: r, k => if k = p.1 then some p.2 else get r k

def put : List (K × Value) → K → Value → List (K × Value)
  | [], k, v => [(k, v)]
  | p :: r, k, v => if k = p.1 then (k, v) :: r else p :: put r k v

def del : List (K × Value) → K → List (K × Value)
  | [], _ => []
  | p :: r, k => if k = p.1 then r else p :: del r k

theorem find_none : ∀ (L : List (K × Value)) (k : K) (i : Nat), find L k i = none → get L k = none ∧ (∀ v, put L k v = L ++ [(k, v)]) ∧ del L k = L
  | [], _, _, _ => ⟨rfl, fun _ => rfl, rfl⟩
  | p :: r, k, i, h => by
    unfold find at h
    by_cases e : k = p.1
    · rw [if_pos e] at h; cases h
    · rw [if_neg e] at h
      obtain ⟨h1, h2, h3⟩ := find_none r k (i + 1) h
      exact ⟨by rw [get, if_neg e, h1], fun v => by rw [put, if_neg e, h2]; rfl, by rw [del, if_neg e, h3]⟩

theorem find_some : ∀ (L : List (K × Value)) (k : K) (i j : Nat) (u : Value), find L k i = some (j, u) →
    i ≤ j ∧ get L k = some u ∧ (∀ v, put L k v = L.set (j - i) (k, v)) ∧ del L k = L.eraseIdx (j - i) ∧ L[j - i]? = some (k, u)
  | [], _, _, _, _, h => by cases h
  | p :: r, k, i, j, u, h => by
    unfold find at h
    by_cases e : k = p.1
    · rw [if_pos e] at h
      simp only [Option.some.injEq, Prod.mk.injEq] at h
      obtain ⟨rfl, rfl⟩ := h
      exact ⟨Nat.le_refl _, by rw [get, if_pos e], fun v => by rw [put, if_pos e]; simp, by rw [del, if_pos e]; simp, by simp [e]⟩
    · rw [if_neg e] at h
      obtain ⟨h0, h1, h2, h3, h4⟩ := find_some r k (i + 1) j u h
      have hj : j - i = (j - (i + 1)) + 1 := by omega
      exact ⟨by omega, by rw [get, if_neg e, h1], fun v => by rw [put, if_neg e, h2, hj]; rfl, by rw [del, if_neg e, h3, hj]; rfl, by rw [hj]; simpa using h4⟩

theorem get_put : ∀ (L : List (K × Value)) (k k' : K) (v : Value), get (put L k v) k' = if k' = k then some v else get L k'
  | [], k, k', v => by simp [put, get]
  | p :: r, k, k', v => by
    unfold put
    by_cases e : k = p.1
    · rw [if_pos e]
      by_cases e' : k' = k
      · simp [get, e']
      · have : ¬ k' = p.1 := fun h => e' (h.trans e.symm)
        simp [get, e', this]
    · rw [if_neg e]
      unfold get
      by_cases e' : k' = p.1
      · have : ¬ k' = k := fun h => e (h.symm.trans e')
        rw [if_pos e', if_neg this, if_pos e']
      · rw [if_neg e', get_put r k k' v, if_neg e']

theorem length_put : ∀ (L : List (K × Value)) (k : K) (v : Value), (put L k v).length = if (get L k).isSome then L.length else L.length + 1
  | [], k, v => by simp [put, get]
  | p :: r, k, v => by
    unfold put get
    by_cases e : k = p.1
    · rw [if_pos e, if_pos e]; simp
    · rw [if_neg e, if_neg e]
      simp only [List.length_cons, length_put r k v]
      split <;> rfl

theorem get_mem : ∀ (L : List (K × Value)) (k : K), (get L k).isSome = true ↔ k ∈ L.map Prod.fst
  | [], k => by simp [get]
  | p :: r, k => by
    unfold get
    by_cases e : k = p.1
    · simp [e]
    · rw [if_neg e, get_mem r k]; simp [e]

theorem put_keys : ∀ (L : List (K × Value)) (k : K) (v : Value), ∀ x, x ∈ (put L k v).map Prod.fst ↔ x = k ∨ x ∈ L.map Prod.fst
  | [], k, v, x => by simp [put]
  | p :: r, k, v, x => by
    unfold put
    by_cases e : k = p.1
    · rw [if_pos e]; simp [e]
    · rw [if_neg e, List.map_cons, List.mem_cons, put_keys r k v x, List.map_cons, List.mem_cons]
      constructor
      · rintro (h | h | h)
        · exact .inr (.inl h)
        · exact .inl h
        · exact .inr (.inr h)
      · rintro (h | h | h)
        · exact .inr (.inl h)
        · exact .inl h
        · exact .inr (.inr h)

theorem put_nodup : ∀ (L : List (K × Value)) (k : K) (v : Value), (L.map Prod.fst).Nodup → ((put L k v).map Prod.fst).Nodup
  | [], k, v, _ => by simp [put]
  | p :: r, k, v, h => by
    unfold put
    rw [List.map_cons, List.nodup_cons] at h
    by_cases e : k = p.1
    · rw [if_pos e, List.map_cons, List.nodup_cons]
      exact ⟨by simpa [e] using h.1, h.2⟩
    · rw [if_neg e, List.map_cons, List.nodup_cons]
      refine ⟨fun hm => ?_, put_nodup r k v h.2⟩
      rcases (put_keys r k v p.1).1 hm with h' | h'
      · exact e h'.symm
      · exact h.1 h'

theorem del_keys : ∀ (L : List (K × Value)) (k : K) (x : K), x ∈ (del L k).map Prod.fst → x ∈ L.map Prod.fst
  | [], _, _, h => h
  | p :: r, k, x, h => by
    unfold del at h
    by_cases e : k = p.1
    · rw [if_pos e] at h; exact List.mem_cons_of_mem _ h
    · rw [if_neg e, List.map_cons, List.mem_cons] at h
      rw [List.map_cons, List.mem_cons]
      exact h.elim (fun h => .inl h) (fun h => .inr (del_keys r k x h))

theorem del_nodup : ∀ (L : List (K × Value)) (k : K), (L.map Prod.fst).Nodup → ((del L k).map Prod.fst).Nodup
  | [], _, h => h
  | p :: r, k, h => by
    unfold del
    rw [List.map_cons, List.nodup_cons] at h
    by_cases e : k = p.1
    · rw [if_pos e]; exact h.2
    · rw [if_neg e, List.map_cons, List.nodup_cons]
      exact ⟨fun hm => h.1 (del_keys r k p.1 hm), del_nodup r k h.2⟩

theorem get_none_of (L : List (K × Value)) (k : K) (h : ¬ k ∈ L.map Prod.fst) : get L k = none := by
  cases hg : get L k with
  | none => rfl
  | some v => exact absurd ((get_mem L k).1 (by rw [hg]; rfl)) h

theorem get_del : ∀ (L : List (K × Value)) (k k' : K), (L.map Prod.fst).Nodup → get (del L k) k' = if k' = k then none else get L k'
  | [], k, k', _ => by simp [del, get]
  | p :: r, k, k', h => by
    rw [List.map_cons, List.nodup_cons] at h
    unfold del
    by_cases e : k = p.1
    · rw [if_pos e]
      by_cases e' : k' = k
      · rw [if_pos e', e', e]; exact get_none_of r _ h.1
      · have : ¬ k' = p.1 := fun x => e' (x.trans e.symm)
        rw [if_neg e', get, if_neg this]
    · rw [if_neg e]
      unfold get
      by_cases e' : k' = p.1
      · have : ¬ k' = k := fun x => e (x.symm.trans e')
        rw [if_pos e', if_neg this, if_pos e']
      · rw [if_neg e', get_del r k k' h.2, if_neg e']

theorem length_del : ∀ (L : List (K × Value)) (k : K), (del L k).length = if (get L k).isSome then L.length - 1 else L.length
  | [], k => by simp [del, get]
  | p :: r, k => by
    unfold del get
    by_cases e : k = p.1
    · rw [if_pos e, if_pos e]; simp
    · rw [if_neg e, if_neg e]
      have hr := length_del r k
      by_cases hg : (get r k).isSome = true
      · have : 0 < r.length := by
          cases r with
          | nil => simp [get] at hg
          | cons a b => simp
        simp only [hg, if_true] at hr ⊢
        simp only [List.length_cons, hr]; omega
      · simp only [hg] at hr ⊢
        simp [hr]

end

section
variable {P : Program} {K : Type} [DecidableEq K] {kt : TypeId} {enc : K → Value}

/-- What the model asks of a key type and of the way its keys are written. -/
structure KeyEnc (P : Program) (kt : TypeId) (enc : K → Value) : Prop where
  now : ∃ td, P.underlying kt = some td ∧ ∀ k k', Instr.sameNow td (enc k) (enc k') = none ∨ Instr.sameNow td (enc k) (enc k') = some (decide (k = k'))
  check : ∀ e k w, (Instr.checkKey e 10000 kt (enc k)).run P w = .ok () w
  eq : ∀ k k' w, (Op.equal kt (enc k) (enc k')).run P w = .ok (decide (k = k')) w
  bits : ∀ k, Instr.sameBits 10000 (enc k) (enc k) = true

/-- The entries are the pairs, in their order. -/
def Ents (enc : K → Value) (es : List MapEntry) (L : List (K × Value)) : Prop := ∀ i : Nat, (es[i]?).map (fun e => (e.key, e.val)) = (L[i]?).map fun p => (enc p.1, p.2)

theorem Ents.length {es : List MapEntry} {L : List (K × Value)} (h : Ents enc es L) : es.length = L.length := by
  have h1 := h es.length
  have h2 := h L.length
  simp only [List.getElem?_eq_none (Nat.le_refl _), Option.map_none] at h1 h2
  have h1' : L[es.length]? = none := by
    cases hx : L[es.length]? with
    | none => rfl
    | some x => rw [hx] at h1; simp at h1
  have h2' : es[L.length]? = none := by
    cases hx : es[L.length]? with
    | none => rfl
    | some x => rw [hx] at h2; simp at h2
  have a := List.getElem?_eq_none_iff.1 h1'
  have b := List.getElem?_eq_none_iff.1 h2'
  omega

theorem Ents.cons {e : MapEntry} {es : List MapEntry} {p : K × Value} {L : List (K × Value)} (h : Ents enc (e :: es) (p :: L)) : e.key = enc p.1 ∧ e.val = p.2 ∧ Ents enc es L := by
  have h0 := h 0
  simp only [List.getElem?_cons_zero, Option.map_some, Option.some.injEq, Prod.mk.injEq] at h0
  exact ⟨h0.1, h0.2, fun i => by have := h (i + 1); simpa using this⟩

theorem run_asking (H : KeyEnc P kt enc) (k : K) : ∀ (es : List MapEntry) (L : List (K × Value)) (i : Nat) (w : World), Ents enc es L → (Instr.findAsking kt (enc k) es i).run P w = .ok (find L k i) w
  | [], L, i, w, h => by
    have : L = [] := by have := h.length; cases L with | nil => rfl | cons a b => simp at this
    subst this
    simp [Instr.findAsking, find]
  | e :: es, [], i, w, h => by have := h.length; simp at this
  | e :: es, p :: L, i, w, h => by
    obtain ⟨h1, h2, h3⟩ := h.cons
    simp only [Instr.findAsking, Sem.run_bind, h1, H.eq, Result.andThen_ok, Sem.run_ite]
    by_cases c : k = p.1
    · simp [c, find, h2]
    · simp only [c, decide_false, find, if_false, Bool.false_eq_true]
      exact run_asking H k es L (i + 1) w h3

theorem find_now {td : TypeDesc} (hs : ∀ k k', Instr.sameNow td (enc k) (enc k') = none ∨ Instr.sameNow td (enc k) (enc k') = some (decide (k = k'))) (k : K) :
    ∀ (es : List MapEntry) (L : List (K × Value)) (i : Nat), Ents enc es L → Instr.findNow td (enc k) es i = none ∨ Instr.findNow td (enc k) es i = some (find L k i)
  | [], L, i, h => by
    have : L = [] := by have := h.length; cases L with | nil => rfl | cons a b => simp at this
    subst this
    exact .inr rfl
  | e :: es, [], i, h => by have := h.length; simp at this
  | e :: es, p :: L, i, h => by
    obtain ⟨h1, h2, h3⟩ := h.cons
    unfold Instr.findNow
    rw [h1]
    rcases hs k p.1 with hn | hn
    · rw [hn]; exact .inl rfl
    · rw [hn]
      by_cases c : k = p.1
      · simp [c, find, h2]
      · simp only [c, decide_false, find, if_false]
        exact find_now hs k es L (i + 1) h3

theorem run_find (H : KeyEnc P kt enc) (k : K) (es : List MapEntry) (L : List (K × Value)) (w : World) (h : Ents enc es L) : (Instr.findKey kt (enc k) es).run P w = .ok (find L k 0) w := by
  obtain ⟨td, hu, hs⟩ := H.now
  simp only [Instr.findKey, Sem.run_bind, run_underlying hu, Result.andThen_ok]
  rcases find_now hs k es L 0 h with hn | hn
  · rw [hn]; exact run_asking H k es L 0 w h
  · rw [hn]; rfl

/-- The block b is a map that holds just these pairs. -/
def MapAt (enc : K → Value) (w : World) (b : Nat) (L : List (K × Value)) : Prop := ∃ es clock, w.heap[b]? = some (.map es clock) ∧ Ents enc es.toList L

theorem MapAt.of_heap {w w' : World} {b : Nat} {L : List (K × Value)} (h : MapAt enc w b L) (e : w'.heap[b]? = w.heap[b]?) : MapAt enc w' b L := by
  obtain ⟨es, c, h1, h2⟩ := h
  exact ⟨es, c, e.trans h1, h2⟩

theorem MapAt.lt {w : World} {b : Nat} {L : List (K × Value)} (h : MapAt enc w b L) : b < w.heap.size := by
  obtain ⟨es, c, h1, h2⟩ := h
  exact (Array.getElem?_eq_some_iff.1 h1).1

theorem MapAt.new (w : World) : MapAt enc (w.alloc (.map #[] 0)) w.heap.size ([] : List (K × Value)) := ⟨#[], 0, by show (w.heap.push _)[w.heap.size]? = _; simp, fun i => by simp⟩

/-- A map's block has no cells. -/
theorem MapAt.cell {w : World} {b : Nat} {L : List (K × Value)} (h : MapAt enc w b L) (o : Nat) : ∀ v, w.cell? ⟨b, o, none⟩ ≠ some v := by
  obtain ⟨es, c, h1, h2⟩ := h
  intro v hv
  simp [World.cell?, h1] at hv

variable {mt et : TypeId} {z : Value}

theorem run_look (H : KeyEnc P kt enc) (hu : P.underlying mt = some (.map kt et)) (hz : ∀ w, (zeroValue et).run P w = .ok z w) (w : World) (b : Nat) (L : List (K × Value)) (k : K) (h : MapAt enc w b L) (ok : Bool) :
    (Instr.lookup mt (.map (some b)) (enc k) ok).run P w = .ok (if ok then .tuple #[(get L k).getD z, .bool (get L k).isSome] else (get L k).getD z) w := by
  obtain ⟨es, clock, hb, hE⟩ := h
  simp only [Instr.lookup, Sem.run_bind, run_underlying hu, Result.andThen_ok, MapKept.run_getObj_map hb, Sem.run_pure, H.check, run_find H k es.toList L w hE]
  cases hf : find L k 0 with
  | none =>
    have := (find_none L k 0 hf).1
    simp only [this, hz, Sem.run_bind, Sem.run_pure, Result.andThen_ok]
    cases ok <;> simp
  | some r =>
    obtain ⟨j, u⟩ := r
    have := (find_some L k 0 j u hf).2.1
    simp only [this]
    cases ok <;> simp

theorem run_look_nil (H : KeyEnc P kt enc) (hu : P.underlying mt = some (.map kt et)) (hz : ∀ w, (zeroValue et).run P w = .ok z w) (w : World) (k : K) (ok : Bool) :
    (Instr.lookup mt (.map none) (enc k) ok).run P w = .ok (if ok then .tuple #[z, .bool false] else z) w := by
  have hf := run_find H k [] [] w (fun i => by simp)
  simp only [find] at hf
  simp only [Instr.lookup, Sem.run_bind, run_underlying hu, Result.andThen_ok, Sem.run_pure, H.check, hf, hz]

/-- A map's block is turned: all else is as it was. -/
structure Turn (w w' : World) (b : Nat) : Prop where
  os : w'.os = w.os
  tape : w'.tape = w.tape
  output : w'.output = w.output
  drawn : w'.drawn = w.drawn
  size : w'.heap.size = w.heap.size
  other : ∀ i, i ≠ b → w'.heap[i]? = w.heap[i]?
  cell : ∀ a, w'.cell? a = w.cell? a
  frozen : ∀ a, w'.frozen? a = w.frozen? a

theorem turn_set {w : World} {b : Nat} {es : Array MapEntry} {clock : Nat} (hb : w.heap[b]? = some (.map es clock)) (es' : Array MapEntry) (clock' : Nat) : Turn w (setBlock w b (.map es' clock')) b where
  os := rfl
  tape := rfl
  output := rfl
  drawn := rfl
  size := by simp [setBlock]
  other := fun i hi => heap_setBlock_other hb _ hi
  cell := fun a => by
    unfold World.cell?
    by_cases e : a.block = b
    · rw [e, heap_setBlock_same hb, hb]
    · rw [heap_setBlock_other hb _ e]
  frozen := fun a => frozen?_setBlock hb a

theorem run_store (H : KeyEnc P kt enc) (hu : P.underlying mt = some (.map kt et)) (w : World) (b : Nat) (L : List (K × Value)) (k : K) (v : Value) (h : MapAt enc w b L) :
    ∃ w', (Instr.mapUpdate mt (.map (some b)) (enc k) v).run P w = .ok () w' ∧ MapAt enc w' b (put L k v) ∧ Turn w w' b := by
  obtain ⟨es, clock, hb, hE⟩ := h
  cases hf : find L k 0 with
  | none =>
    refine ⟨setBlock w b (.map (es.push { key := enc k, val := v, born := clock }) (clock + 1)), ?_, ⟨_, _, heap_setBlock_same hb _, ?_⟩, turn_set hb _ _⟩
    · simp only [Instr.mapUpdate, Sem.run_bind, run_underlying hu, Result.andThen_ok, MapKept.run_getObj_map hb, H.check, run_find H k es.toList L w hE, hf, run_setObj_map _ hb]
      rfl
    · rw [(find_none L k 0 hf).2.1 v]
      intro i
      have hl := hE.length
      have hi := hE i
      rw [Array.toList_push]
      by_cases c : i < L.length
      · rw [List.getElem?_append_left (by omega), List.getElem?_append_left c]; exact hi
      · by_cases c2 : i = L.length
        · subst c2
          rw [List.getElem?_append_right (by omega), List.getElem?_append_right (Nat.le_refl _), hl]
          simp
        · rw [List.getElem?_eq_none (by simp; simp at hl; omega), List.getElem?_eq_none (by simp; omega)]; rfl
  | some r =>
    obtain ⟨j, u⟩ := r
    obtain ⟨_, h1, h2, _, h4⟩ := find_some L k 0 j u hf
    simp only [Nat.sub_zero] at h2 h4
    have hkey : ((es[j]?).map (·.key)).getD (enc k) = enc k := by
      have := hE j
      rw [h4] at this
      rw [Array.getElem?_toList] at this
      cases he : es[j]? with
      | none => simp
      | some e => rw [he] at this; simp at this; simp [this.1]
    refine ⟨setBlock w b (.map (es.modify j fun e => { e with key := enc k, val := v }) clock), ?_, ⟨_, _, heap_setBlock_same hb _, ?_⟩, turn_set hb _ _⟩
    · simp only [Instr.mapUpdate, Sem.run_bind, run_underlying hu, Result.andThen_ok, MapKept.run_getObj_map hb, H.check, run_find H k es.toList L w hE, hf, Instr.keyThatStays, hkey, H.bits, if_true, Sem.run_pure, run_setObj_map _ hb]
      rfl
    · rw [h2 v]
      intro i
      have hi := hE i
      rw [Array.getElem?_toList] at hi ⊢
      rw [Array.getElem?_modify, List.getElem?_set]
      by_cases c : j = i
      · subst c
        rw [if_pos rfl, if_pos rfl]
        have hjl : j < L.length := (List.getElem?_eq_some_iff.1 h4).1
        rw [if_pos hjl]
        cases he : es[j]? with
        | none => rw [he, h4] at hi; simp at hi
        | some e => simp
      · rw [if_neg c, if_neg c]; exact hi

/-- The store, at every world whose map's block is that one (draws, other blocks): one new block. -/
theorem run_store_all (H : KeyEnc P kt enc) (hu : P.underlying mt = some (.map kt et)) (w : World) (b : Nat) (L : List (K × Value)) (k : K) (v : Value) (h : MapAt enc w b L) :
    ∃ o, ∀ W : World, W.heap[b]? = w.heap[b]? → (Instr.mapUpdate mt (.map (some b)) (enc k) v).run P W = .ok () (setBlock W b o) ∧ MapAt enc (setBlock W b o) b (put L k v) ∧ Turn W (setBlock W b o) b := by
  obtain ⟨es, clock, hb, hE⟩ := h
  cases hf : find L k 0 with
  | none =>
    refine ⟨.map (es.push { key := enc k, val := v, born := clock }) (clock + 1), fun W hW => ?_⟩
    have hb' := hW.trans hb
    obtain ⟨w', h1, h2, h3⟩ := run_store H hu W b L k v ⟨es, clock, hb', hE⟩
    have h1' : (Instr.mapUpdate mt (.map (some b)) (enc k) v).run P W = .ok () (setBlock W b (.map (es.push { key := enc k, val := v, born := clock }) (clock + 1))) := by
      simp only [Instr.mapUpdate, Sem.run_bind, run_underlying hu, Result.andThen_ok, MapKept.run_getObj_map hb', H.check, run_find H k es.toList L W hE, hf, run_setObj_map _ hb']
      rfl
    rw [h1'] at h1
    simp only [Result.ok.injEq, true_and] at h1
    subst h1
    exact ⟨h1', h2, h3⟩
  | some r =>
    obtain ⟨j, u⟩ := r
    obtain ⟨_, _, h2, _, h4⟩ := find_some L k 0 j u hf
    simp only [Nat.sub_zero] at h2 h4
    have hkey : ((es[j]?).map (·.key)).getD (enc k) = enc k := by
      have := hE j
      rw [h4] at this
      rw [Array.getElem?_toList] at this
      cases he : es[j]? with
      | none => simp
      | some e => rw [he] at this; simp at this; simp [this.1]
    refine ⟨.map (es.modify j fun e => { e with key := enc k, val := v }) clock, fun W hW => ?_⟩
    have hb' := hW.trans hb
    obtain ⟨w', h1, h2, h3⟩ := run_store H hu W b L k v ⟨es, clock, hb', hE⟩
    have h1' : (Instr.mapUpdate mt (.map (some b)) (enc k) v).run P W = .ok () (setBlock W b (.map (es.modify j fun e => { e with key := enc k, val := v }) clock)) := by
      simp only [Instr.mapUpdate, Sem.run_bind, run_underlying hu, Result.andThen_ok, MapKept.run_getObj_map hb', H.check, run_find H k es.toList L W hE, hf, Instr.keyThatStays, hkey, H.bits, if_true, Sem.run_pure, run_setObj_map _ hb']
      rfl
    rw [h1'] at h1
    simp only [Result.ok.injEq, true_and] at h1
    subst h1
    exact ⟨h1', h2, h3⟩

theorem run_drop (H : KeyEnc P kt enc) (hu : P.underlying mt = some (.map kt et)) (ts : Array TypeId) (hts : ts[0]? = some mt) (ty : TypeId) (w : World) (b : Nat) (L : List (K × Value)) (k : K) (h : MapAt enc w b L) :
    ∃ w', (Builtin.delete_ ts ty #[.map (some b), enc k]).run P w = .ok (.tuple #[]) w' ∧ MapAt enc w' b (del L k) ∧ Turn w w' b := by
  obtain ⟨es, clock, hb, hE⟩ := h
  cases hf : find L k 0 with
  | none =>
    refine ⟨setBlock w b (.map es clock), ?_, ⟨_, _, heap_setBlock_same hb _, ?_⟩, turn_set hb _ _⟩
    · simp [Builtin.delete_, hts, run_underlying hu, MapKept.run_getObj_map hb, H.check, run_find H k es.toList L w hE, hf, run_setObj_map _ hb, setBlock]
    · rw [(find_none L k 0 hf).2.2]; exact hE
  | some r =>
    obtain ⟨j, u⟩ := r
    obtain ⟨_, h1, _, h3, h4⟩ := find_some L k 0 j u hf
    simp only [Nat.sub_zero] at h3 h4
    refine ⟨setBlock w b (.map (es.eraseIdxIfInBounds j) clock), ?_, ⟨_, _, heap_setBlock_same hb _, ?_⟩, turn_set hb _ _⟩
    · simp [Builtin.delete_, hts, run_underlying hu, MapKept.run_getObj_map hb, H.check, run_find H k es.toList L w hE, hf, run_setObj_map _ hb, setBlock]
    · rw [h3]
      intro i
      have hjl : j < L.length := (List.getElem?_eq_some_iff.1 h4).1
      have hl := hE.length
      have hjs : j < es.size := by simpa [← hl] using hjl
      have he : (es.eraseIdxIfInBounds j).toList = es.toList.eraseIdx j := by
        simp [Array.eraseIdxIfInBounds, hjs]
      rw [he, List.getElem?_eraseIdx, List.getElem?_eraseIdx]
      by_cases c : i < j
      · rw [if_pos c, if_pos c]; exact hE i
      · rw [if_neg c, if_neg c]; exact hE (i + 1)

theorem run_len (hu : P.underlying mt = some (.map kt et)) (ty : TypeId) (w : World) (b : Nat) (L : List (K × Value)) (h : MapAt enc w b L) :
    (Builtin.len_ #[mt] ty #[.map (some b)]).run P w = .ok (goInt L.length) w := by
  obtain ⟨es, clock, hb, hE⟩ := h
  have hl := hE.length
  simp only [Array.length_toList] at hl
  simp [Builtin.len_, run_underlying hu, MapKept.run_getObj_map hb, hl]

end
end Go.Proofs.YbulkbseuGreat.AM
