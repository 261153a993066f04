/-
  The plain law, with no Go in sight: undoing the recorded changes, the last first, brings every map back.
-/
import Derived.Test.YbulkbsiaMaps
namespace Go.Proofs.Ybulkbsia.AM
open Go
set_option linter.unusedVariables false

abbrev Tab := List (Int × Value)

/-- No key twice; every value an int. -/
structure Good (L : Tab) : Prop where
  nodup : (L.map Prod.fst).Nodup
  ints : ∀ k v, get L k = some v → ∃ z, v = .int .i64 z

/-- what a look-up hands: the int, 0 where there is none -/
def val (L : Tab) (k : Int) : Int := match get L k with | some (.int _ z) => z | _ => 0
def held (L : Tab) (k : Int) : Bool := (get L k).isSome

theorem Good.look {L : Tab} (h : Good L) (k : Int) : (get L k).getD (.int .i64 0) = .int .i64 (val L k) := by
  unfold val
  cases hg : get L k with
  | none => rfl
  | some v => obtain ⟨z, rfl⟩ := h.ints k v hg; rfl

theorem Good.back {L : Tab} (h : Good L) {k : Int} (hh : held L k = true) : get L k = some (.int .i64 (val L k)) := by
  unfold held at hh
  unfold val
  cases hg : get L k with
  | none => rw [hg] at hh; cases hh
  | some v => obtain ⟨z, rfl⟩ := h.ints k v hg; rfl

theorem held_none {L : Tab} {k : Int} (hh : held L k = false) : get L k = none := by
  unfold held at hh
  cases hg : get L k with
  | none => rfl
  | some v => rw [hg] at hh; cases hh

theorem good_nil : Good [] := ⟨by simp, fun k v h => by simp [get] at h⟩
theorem Good.put {L : Tab} (h : Good L) (k z : Int) : Good (put L k (.int .i64 z)) :=
  ⟨put_nodup L k _ h.nodup, fun k' v hv => by
    rw [get_put] at hv
    by_cases c : k' = k
    · rw [if_pos c] at hv; exact ⟨z, by simpa using hv.symm⟩
    · rw [if_neg c] at hv; exact h.ints k' v hv⟩
theorem Good.del {L : Tab} (h : Good L) (k : Int) : Good (del L k) :=
  ⟨del_nodup L k h.nodup, fun k' v hv => by
    rw [get_del L k k' h.nodup] at hv
    by_cases c : k' = k
    · rw [if_pos c] at hv; cases hv
    · rw [if_neg c] at hv; exact h.ints k' v hv⟩

/-- a recorded change: which map, the key, what it held -/
structure Ch where
  side : Nat
  lt : side < 2
  key : Int
  val : Int
  held : Bool

/-- one map set or a key struck: the new table -/
def turn (L : Tab) (k : Int) (set : Bool) (z : Int) : Tab := if set then put L k (.int .i64 z) else del L k

theorem Good.turn {L : Tab} (h : Good L) (k : Int) (s : Bool) (z : Int) : Good (turn L k s z) := by
  unfold AM.turn
  cases s
  · exact h.del k
  · exact h.put k z

def upd (S : Nat → Tab) (i : Nat) (L : Tab) : Nat → Tab := fun j => if j = i then L else S j
def undo (S : Nat → Tab) (c : Ch) : Nat → Tab := upd S c.side (turn (S c.side) c.key c.held c.val)
def undoAll (S : Nat → Tab) (cs : List Ch) : Nat → Tab := cs.foldl undo S

theorem upd_same (S : Nat → Tab) (i : Nat) (L : Tab) : upd S i L i = L := if_pos rfl
theorem upd_other (S : Nat → Tab) (i : Nat) (L : Tab) {j : Nat} (h : j ≠ i) : upd S i L j = S j := if_neg h

def AllGood (S : Nat → Tab) : Prop := ∀ s, Good (S s)
theorem AllGood.upd {S : Nat → Tab} (h : AllGood S) {i : Nat} {L : Tab} (hL : Good L) : AllGood (upd S i L) := fun s => by
  unfold AM.upd
  split
  · exact hL
  · exact h s
theorem AllGood.undo {S : Nat → Tab} (h : AllGood S) (c : Ch) : AllGood (undo S c) := h.upd ((h c.side).turn _ _ _)
theorem AllGood.undoAll : ∀ (cs : List Ch) {S : Nat → Tab}, AllGood S → AllGood (undoAll S cs)
  | [], _, h => h
  | c :: cs, _, h => AllGood.undoAll cs (h.undo c)

/-- the same look-ups -/
def Same (S S' : Nat → Tab) : Prop := ∀ s k, get (S s) k = get (S' s) k

theorem get_turn {L : Tab} (h : Good L) (k : Int) (s : Bool) (z : Int) (k' : Int) : get (turn L k s z) k' = if k' = k then (if s then some (.int .i64 z) else none) else get L k' := by
  unfold turn
  cases s
  · simp only [Bool.false_eq_true, if_false]; exact get_del L k k' h.nodup
  · simp only [if_true]; exact get_put L k k' _

theorem Same.undo {S S' : Nat → Tab} (h : Same S S') (hS : AllGood S) (hS' : AllGood S') (c : Ch) : Same (undo S c) (undo S' c) := fun s k => by
  unfold AM.undo AM.upd
  by_cases e : s = c.side
  · rw [if_pos e, if_pos e, get_turn (hS _), get_turn (hS' _), h]
  · rw [if_neg e, if_neg e, h]

theorem Same.undoAll : ∀ (cs : List Ch) {S S' : Nat → Tab}, Same S S' → AllGood S → AllGood S' → Same (undoAll S cs) (undoAll S' cs)
  | [], _, _, h, _, _ => h
  | c :: cs, _, _, h, hS, hS' => Same.undoAll cs (h.undo hS hS' c) (hS.undo c) (hS'.undo c)

/-- what is recorded ahead of a turn undoes it -/
theorem undo_turn {S : Nat → Tab} (hS : AllGood S) {i : Nat} (hi : i < 2) (k : Int) (s : Bool) (z : Int) :
    Same (undo (upd S i (turn (S i) k s z)) ⟨i, hi, k, val (S i) k, held (S i) k⟩) S := fun j k' => by
  have hG := hS i
  unfold undo
  dsimp only
  rw [upd_same]
  by_cases e : j = i
  · subst e
    rw [upd_same, get_turn (hG.turn _ _ _), get_turn hG]
    by_cases c : k' = k
    · subst c
      rw [if_pos rfl]
      by_cases d : held (S j) k' = true
      · rw [if_pos d, hG.back d]
      · simp only [Bool.not_eq_true] at d
        rw [d, held_none d]; rfl
    · rw [if_neg c, if_neg c]
  · rw [upd_other _ _ _ e, upd_other _ _ _ e]

theorem length_le : ∀ (l m : List Int), l.Nodup → (∀ x, x ∈ l → x ∈ m) → l.length ≤ m.length
  | [], m, _, _ => Nat.zero_le _
  | a :: l, m, h, hs => by
    rw [List.nodup_cons] at h
    have ha := hs a (by simp)
    have := length_le l (m.erase a) h.2 (fun x hx => (List.mem_erase_of_ne (fun (e : x = a) => h.1 (by rw [← e]; exact hx))).2 (hs x (by simp [hx])))
    have hp : 0 < m.length := List.length_pos_of_mem ha
    rw [List.length_erase_of_mem ha] at this
    simp only [List.length_cons]; omega

theorem Same.length {L L' : Tab} (h : Good L) (h' : Good L') (e : ∀ k, get L k = get L' k) : L.length = L'.length := by
  have a := length_le (L.map Prod.fst) (L'.map Prod.fst) h.nodup (fun x hx => (get_mem L' x).1 (by rw [← e]; exact (get_mem L x).2 hx))
  have b := length_le (L'.map Prod.fst) (L.map Prod.fst) h'.nodup (fun x hx => (get_mem L x).1 (by rw [e]; exact (get_mem L' x).2 hx))
  simp at a b
  omega

/-- how many of the first n keys are held -/
def cnt (L : Tab) : Nat → Nat
  | 0 => 0
  | n + 1 => cnt L n + if held L n then 1 else 0

theorem cnt_le (L : Tab) : ∀ n, cnt L n ≤ n
  | 0 => Nat.le_refl _
  | n + 1 => by
    have := cnt_le L n
    rw [cnt]; split <;> omega

theorem cnt_filter (L : Tab) : ∀ n, cnt L n = ((List.range n).filter fun k : Nat => held L (k : Int)).length
  | 0 => rfl
  | n + 1 => by
    rw [cnt, cnt_filter L n, List.range_succ, List.filter_append, List.length_append]
    congr 1
    by_cases c : held L n = true
    · simp [c]
    · simp only [Bool.not_eq_true] at c; simp [c]

theorem pw_int : ∀ (l : List Nat), l.Nodup → l.Pairwise (fun a b : Nat => (a : Int) ≠ (b : Int))
  | [], _ => List.Pairwise.nil
  | a :: l, h => List.pairwise_cons.2 ⟨fun b hb e => (List.nodup_cons.1 h).1 ((show a = b by omega) ▸ hb), pw_int l (List.nodup_cons.1 h).2⟩

theorem cnt_length {L : Tab} (h : Good L) {n : Nat} (hk : ∀ k, held L k = true → 0 ≤ k ∧ k < n) : cnt L n = L.length := by
  have e := cnt_filter L n
  have hnd : (((List.range n).filter fun k : Nat => held L (k : Int)).map (fun k : Nat => (k : Int))).Nodup := by
    rw [List.nodup_iff_pairwise_ne, List.pairwise_map]
    exact pw_int _ ((List.nodup_range (n := n)).filter _)
  have a := length_le (L.map Prod.fst) (((List.range n).filter fun k : Nat => held L (k : Int)).map (fun k : Nat => (k : Int))) h.nodup (fun x hx => by
    have hh : held L x = true := (get_mem L x).2 hx
    obtain ⟨h1, h2⟩ := hk x hh
    exact List.mem_map.2 ⟨x.toNat, List.mem_filter.2 ⟨List.mem_range.2 (by omega), by have : ((x.toNat : Nat) : Int) = x := by omega
                                                                                      rw [this]; exact hh⟩, by omega⟩)
  have b := length_le (((List.range n).filter fun k : Nat => held L (k : Int)).map (fun k : Nat => (k : Int))) (L.map Prod.fst) hnd (fun x hx => by
    obtain ⟨k, h1, rfl⟩ := List.mem_map.1 hx
    exact (get_mem L _).1 (List.mem_filter.1 h1).2)
  simp at a b
  omega
end Go.Proofs.Ybulkbsia.AM
