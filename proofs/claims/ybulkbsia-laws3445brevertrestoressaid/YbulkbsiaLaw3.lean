/-
  The law's walk.
-/
import Derived.Test.YbulkbsiaRevert
import Derived.Laws.MakeOwn
import Derived.Deep.LoopGhost
import Derived.Deep.DeepCutAuto
import Derived.Deep.QuietTactic
namespace Go.Proofs.Ybulkbsia.AM
open Go Go.MapKept Go.RowKit
set_option linter.unusedVariables false

/-- ints, as they lie -/
def IntsAt (B : Nat) (w : World) (a : Option Addr) (len : Nat) (xs : Nat → Int) : Prop :=
  len = 0 ∨ ∃ b off, a = some ⟨b, off, none⟩ ∧ b < B ∧ ∀ j, j < len → w.cell? ⟨b, off + j, none⟩ = some (.int .i64 (xs j))
/-- operations, as they lie -/
def OpsAt (B : Nat) (w : World) (a : Option Addr) (len : Nat) (os ks : Nat → Int) (vs : Nat → Int) : Prop :=
  len = 0 ∨ ∃ b off, a = some ⟨b, off, none⟩ ∧ b < B ∧ ∀ j, j < len → (w.cell? ⟨b, off + j * 3, none⟩ = some (.int .u8 (os j)) ∧ w.cell? ⟨b, off + j * 3 + 1, none⟩ = some (.int .u8 (ks j)) ∧ w.cell? ⟨b, off + j * 3 + 2, none⟩ = some (.int .i64 (vs j))) ∧ (0 ≤ os j ∧ os j ≤ 255) ∧ (0 ≤ ks j ∧ ks j ≤ 255)

/-- The maps as the first loops fill them. -/
structure Ini (W1 wr : World) (mb : Nat) (S : Nat → Tab) : Prop where
  maps : Maps wr mb S
  good : AllGood S
  keys : ∀ s k, held (S s) k = true → 0 ≤ k ∧ k < 16
  fr : Fr (fun i => i = mb ∨ i = mb + 1) W1 wr

theorem Ini.step {W1 wr w' : World} {mb s : Nat} {S : Nat → Tab} {k z : Int} (h : Ini W1 wr mb S) (hs : s < 2) (hk : 0 ≤ k ∧ k < 16) (hm : MapAt enc w' (mb + s) (put (S s) k (.int .i64 z))) (t : Turn wr w' (mb + s)) : Ini W1 w' mb (upd S s (put (S s) k (.int .i64 z))) :=
  ⟨h.maps.turn hm t, h.good.upd ((h.good s).put k z), fun j k' hh => by
    by_cases e : j = s
    · subst e
      rw [upd_same] at hh
      unfold held at hh
      rw [get_put] at hh
      by_cases c : k' = k
      · rw [c]; exact hk
      · rw [if_neg c] at hh; exact h.keys j k' hh
    · rw [upd_other _ _ _ e] at hh; exact h.keys j k' hh, h.fr.turn t (.inl (by omega))⟩

def z32 : Array Value := Array.replicate 32 (.int .i64 0)
def f32 : Array Value := Array.replicate 32 (.bool false)
theorem z32_lit : (#[.int .i64 0, .int .i64 0, .int .i64 0, .int .i64 0, .int .i64 0, .int .i64 0, .int .i64 0, .int .i64 0, .int .i64 0, .int .i64 0, .int .i64 0, .int .i64 0, .int .i64 0, .int .i64 0, .int .i64 0, .int .i64 0, .int .i64 0, .int .i64 0, .int .i64 0, .int .i64 0, .int .i64 0, .int .i64 0, .int .i64 0, .int .i64 0, .int .i64 0, .int .i64 0, .int .i64 0, .int .i64 0, .int .i64 0, .int .i64 0, .int .i64 0, .int .i64 0] : Array Value) = z32 := rfl
theorem f32_lit : (#[.bool false, .bool false, .bool false, .bool false, .bool false, .bool false, .bool false, .bool false, .bool false, .bool false, .bool false, .bool false, .bool false, .bool false, .bool false, .bool false, .bool false, .bool false, .bool false, .bool false, .bool false, .bool false, .bool false, .bool false, .bool false, .bool false, .bool false, .bool false, .bool false, .bool false, .bool false, .bool false] : Array Value) = f32 := rfl

/-- The tables orig, has, count behind k keys of the map s. -/
structure Fill (W2 wr : World) (ob hb cb : Nat) (S : Nat → Tab) (s k : Nat) : Prop where
  oat : ∀ i, i < 32 → ∃ v, wr.cell? ⟨ob, i, none⟩ = some v
  hat : ∀ i, i < 32 → ∃ v, wr.cell? ⟨hb, i, none⟩ = some v
  org : ∀ s' k' : Nat, k' < 16 → s' < s ∨ (s' = s ∧ k' < k) → wr.cell? ⟨ob, s' * 16 + k', none⟩ = some (.int .i64 (val (S s') k'))
  has : ∀ s' k' : Nat, k' < 16 → s' < s ∨ (s' = s ∧ k' < k) → wr.cell? ⟨hb, s' * 16 + k', none⟩ = some (.bool (held (S s') k'))
  cnt : ∀ s', s' < 2 → wr.cell? ⟨cb, s', none⟩ = some (.int .i64 (cnt (S s') (if s' < s then 16 else if s' = s then k else 0)))
  fzo : ∀ i, wr.frozen? ⟨ob, i, none⟩ = false
  fzh : ∀ i, wr.frozen? ⟨hb, i, none⟩ = false
  fzc : ∀ i, wr.frozen? ⟨cb, i, none⟩ = false
  fr : Fr (fun i => i = ob ∨ i = hb ∨ i = cb) W2 wr

theorem fill_step {W2 wr w' : World} {ob hb cb s k : Nat} {S : Nat → Tab} (h : Fill W2 wr ob hb cb S s k) (hs : s < 2) (hk : k < 16)
    (A : ∀ i, w'.cell? ⟨ob, i, none⟩ = if i = s * 16 + k then some (.int .i64 (val (S s) k)) else wr.cell? ⟨ob, i, none⟩)
    (B : ∀ i, w'.cell? ⟨hb, i, none⟩ = if i = s * 16 + k then some (.bool (held (S s) k)) else wr.cell? ⟨hb, i, none⟩)
    (C : ∀ i, i < 2 → w'.cell? ⟨cb, i, none⟩ = if i = s then some (.int .i64 (cnt (S s) (k + 1))) else wr.cell? ⟨cb, i, none⟩)
    (D : ∀ p, w'.frozen? p = wr.frozen? p) (E : Fr (fun i => i = ob ∨ i = hb ∨ i = cb) wr w') : Fill W2 w' ob hb cb S s (k + 1) := by
  refine ⟨fun i hi => ?_, fun i hi => ?_, fun s' k' hk' hc => ?_, fun s' k' hk' hc => ?_, fun s' hs' => ?_, fun i => (D _).trans (h.fzo i), fun i => (D _).trans (h.fzh i), fun i => (D _).trans (h.fzc i), h.fr.trans E (fun _ _ h => h)⟩
  · rw [A]; split
    · exact ⟨_, rfl⟩
    · exact h.oat i hi
  · rw [B]; split
    · exact ⟨_, rfl⟩
    · exact h.hat i hi
  · rw [A]
    by_cases e : s' * 16 + k' = s * 16 + k
    · obtain rfl : s' = s := by omega
      obtain rfl : k' = k := by omega
      rw [if_pos rfl]
    · rw [if_neg e]; exact h.org s' k' hk' (by omega)
  · rw [B]
    by_cases e : s' * 16 + k' = s * 16 + k
    · obtain rfl : s' = s := by omega
      obtain rfl : k' = k := by omega
      rw [if_pos rfl]
    · rw [if_neg e]; exact h.has s' k' hk' (by omega)
  · rw [C s' hs']
    by_cases e : s' = s
    · subst e; rw [if_pos rfl, if_neg (by omega), if_pos rfl]
    · rw [if_neg e, h.cnt s' hs', if_neg e, if_neg e]

theorem fill_next {W2 wr : World} {ob hb cb s : Nat} {S : Nat → Tab} (h : Fill W2 wr ob hb cb S s 16) : Fill W2 wr ob hb cb S (s + 1) 0 :=
  ⟨h.oat, h.hat, fun s' k' hk' hc => h.org s' k' hk' (by omega), fun s' k' hk' hc => h.has s' k' hk' (by omega), fun s' hs' => by
    rw [h.cnt s' hs']
    by_cases a : s' < s
    · rw [if_pos a, if_pos (by omega)]
    · rw [if_neg a]
      by_cases b : s' = s
      · rw [if_pos b, if_pos (by omega)]
      · rw [if_neg b, if_neg (by omega)]
        by_cases c : s' = s + 1
        · rw [if_pos c]
        · rw [if_neg c], h.fzo, h.fzh, h.fzc, h.fr⟩

/-- the two stores, and the third where the key is held -/
theorem fill_stores {W2 wr : World} {ob hb cb s k : Nat} {S : Nat → Tab} (h : Fill W2 wr ob hb cb S s k) (hs : s < 2) (hk : k < 16) (h1 : ob ≠ hb) (h2 : ob ≠ cb) (h3 : hb ≠ cb) :
    (held (S s) k = false → Fill W2 ((wr.setCell ⟨ob, s * 16 + k, none⟩ (.int .i64 (val (S s) k))).setCell ⟨hb, s * 16 + k, none⟩ (.bool false)) ob hb cb S s (k + 1)) ∧
    (held (S s) k = true → Fill W2 (((wr.setCell ⟨ob, s * 16 + k, none⟩ (.int .i64 (val (S s) k))).setCell ⟨hb, s * 16 + k, none⟩ (.bool true)).setCell ⟨cb, s, none⟩ (.int .i64 ((cnt (S s) k : Nat) + 1 : Int))) ob hb cb S s (k + 1)) := by
  obtain ⟨vo, hvo⟩ := h.oat (s * 16 + k) (by omega)
  obtain ⟨vh, hvh⟩ := h.hat (s * 16 + k) (by omega)
  have hvc := h.cnt s hs
  rw [if_neg (by omega), if_pos rfl] at hvc
  have so : ∀ (w : World) (b o b' o' : Nat) (u : Value), b' ≠ b → (w.setCell ⟨b, o, none⟩ u).cell? ⟨b', o', none⟩ = w.cell? ⟨b', o', none⟩ := fun w b o b' o' u hn => World.cell?_setCell_other _ _ _ _ (fun e => hn (by injection e with e1; exact e1.symm))
  have sb : ∀ (w : World) (b o o' : Nat) (u : Value), o' ≠ o → (w.setCell ⟨b, o, none⟩ u).cell? ⟨b, o', none⟩ = w.cell? ⟨b, o', none⟩ := fun w b o o' u hn => World.cell?_setCell_other _ _ _ _ (fun e => hn (by injection e with e1 e2; exact e2.symm))
  constructor
  · intro hh
    refine fill_step h hs hk (fun i => ?_) (fun i => ?_) (fun i hi => ?_) (fun p => by rw [World.frozen?_setCell, World.frozen?_setCell]) (((Fr.refl _ _).setCell (.inl (.inl rfl)) _).setCell (.inl (.inr (.inl rfl))) _)
    · rw [so _ _ _ _ _ _ h1]
      by_cases e : i = s * 16 + k
      · rw [if_pos e, e]; exact World.cell?_setCell_same _ _ _ hvo
      · rw [if_neg e]; exact sb _ _ _ _ _ e
    · by_cases e : i = s * 16 + k
      · rw [if_pos e, e, hh]; exact World.cell?_setCell_same _ _ _ ((so _ _ _ _ _ _ h1.symm).trans hvh)
      · rw [if_neg e]; exact (sb _ _ _ _ _ e).trans (so _ _ _ _ _ _ h1.symm)
    · rw [so _ _ _ _ _ _ h3.symm, so _ _ _ _ _ _ h2.symm]
      by_cases e : i = s
      · rw [if_pos e, e, hvc]; simp [AM.cnt, hh]
      · rw [if_neg e]
  · intro hh
    refine fill_step h hs hk (fun i => ?_) (fun i => ?_) (fun i hi => ?_) (fun p => by rw [World.frozen?_setCell, World.frozen?_setCell, World.frozen?_setCell]) ((((Fr.refl _ _).setCell (.inl (.inl rfl)) _).setCell (.inl (.inr (.inl rfl))) _).setCell (.inl (.inr (.inr rfl))) _)
    · rw [so _ _ _ _ _ _ h2, so _ _ _ _ _ _ h1]
      by_cases e : i = s * 16 + k
      · rw [if_pos e, e]; exact World.cell?_setCell_same _ _ _ hvo
      · rw [if_neg e]; exact sb _ _ _ _ _ e
    · rw [so _ _ _ _ _ _ h3]
      by_cases e : i = s * 16 + k
      · rw [if_pos e, e, hh]; exact World.cell?_setCell_same _ _ _ ((so _ _ _ _ _ _ h1.symm).trans hvh)
      · rw [if_neg e]; exact (sb _ _ _ _ _ e).trans (so _ _ _ _ _ _ h1.symm)
    · by_cases e : i = s
      · rw [if_pos e, e, World.cell?_setCell_same _ _ _ ((so _ _ _ _ _ _ h3.symm).trans ((so _ _ _ _ _ _ h2.symm).trans hvc))]; simp [AM.cnt, hh]
      · rw [if_neg e, sb _ _ _ _ _ e, so _ _ _ _ _ _ h3.symm, so _ _ _ _ _ _ h2.symm]

/-- The log behind j operations. -/
structure Log (W3 wr : World) (mb lb j : Nat) (S S' : Nat → Tab) (cs : List Ch) (v : Value) : Prop where
  maps : Maps wr mb S'
  good : AllGood S'
  cell : wr.cell? ⟨lb, 0, none⟩ = some v
  fz : wr.frozen? ⟨lb, 0, none⟩ = false
  own : wr.ownsRow (lb + 1) 41 4 v j (cs.flatMap (chCells mb))
  len : cs.length = j
  same : Same (undoAll S' cs.reverse) S
  fr : Fr (fun i => i = mb ∨ i = mb + 1 ∨ lb ≤ i) W3 wr

theorem and1 (o : Int) (h : 0 ≤ o ∧ o ≤ 255) : ∃ s : Nat, s < 2 ∧ bits .and .u8 o 1 = s := by
  have key : ∀ n : Fin 256, bits .and .u8 (n.val : Int) 1 = ((n.val % 2 : Nat) : Int) := by decide +kernel
  refine ⟨o.toNat % 2, Nat.mod_lt _ (by decide), ?_⟩
  have := key ⟨o.toNat, by omega⟩
  dsimp only at this
  rwa [show ((o.toNat : Nat) : Int) = o by omega] at this

theorem log_step {W3 wr wa wb wc : World} {mb lb j s : Nat} {S S' : Nat → Tab} {cs : List Ch} {v v' : Value} {k z : Int} {st : Bool} (h : Log W3 wr mb lb j S S' cs v) (hs : s < 2) (hmb : mb + 1 < lb) (hF : Fr (fun _ => False) wr wa)
    (hc : wb.cell? ⟨lb, 0, none⟩ = some v') (hf : wb.frozen? ⟨lb, 0, none⟩ = false) (ho : wb.ownsRow (lb + 1) 41 4 v' (j + 1) (cs.flatMap (chCells mb) ++ chCells mb ⟨s, hs, k, val (S' s) k, held (S' s) k⟩))
    (hF2 : Fr (fun i => i = lb ∨ v.ownBlock = some i) wa wb) (hm : MapAt enc wc (mb + s) (turn (S' s) k st z)) (ht : Turn wb wc (mb + s)) :
    Log W3 wc mb lb (j + 1) S (upd S' s (turn (S' s) k st z)) (cs ++ [⟨s, hs, k, val (S' s) k, held (S' s) k⟩]) v' := by
  have hob : ∀ i, v.ownBlock = some i → lb + 1 ≤ i := fun i e => (h.own.lt i e).1
  refine ⟨?_, h.good.upd ((h.good s).turn _ _ _), (ht.cell _).trans hc, (ht.frozen _).trans hf, ?_, by simp [h.len], ?_, ?_⟩
  · exact Maps.turn ((h.maps.fr hF (fun _ _ h => h)).fr hF2 (fun i hi e => by
      rcases e with e | e
      · omega
      · have := hob _ e; omega)) hm ht
  · have e : (cs ++ [(⟨s, hs, k, val (S' s) k, held (S' s) k⟩ : Ch)]).flatMap (chCells mb) = cs.flatMap (chCells mb) ++ chCells mb ⟨s, hs, k, val (S' s) k, held (S' s) k⟩ := by simp
    rw [e]
    exact ho.kept (row := some (mb + s)) ⟨ht.os, ht.tape, ht.output, Nat.le_of_eq ht.size.symm, fun i _ hi => ht.other i (fun e => hi (by rw [e]))⟩ (.inr (fun e => by have := (ho.lt _ e).1; omega))
  · rw [List.reverse_append]
    have hu := undo_turn h.good hs k st z
    have hg : AllGood (upd S' s (turn (S' s) k st z)) := h.good.upd ((h.good s).turn _ _ _)
    have := Same.undoAll cs.reverse hu (hg.undo _) h.good
    exact fun i k' => (this i k').trans (h.same i k')
  · refine ((h.fr.trans hF (fun _ _ h => h.elim)).trans hF2 (fun i hi e => ?_)).turn ht (.inl (by omega))
    rcases e with e | e
    · exact .inr (.inr (by omega))
    · exact .inr (.inr (by have := hob _ e; omega))

def noCh : Ch := ⟨0, by decide, 0, 0, false⟩

theorem flat_get (mb : Nat) : ∀ (cs : List Ch) (i o : Nat), o < 4 → i < cs.length → (cs.flatMap (chCells mb))[i * 4 + o]? = (chCells mb (cs[i]?.getD noCh))[o]?
  | [], i, o, _, h => by simp at h
  | c :: cs, 0, o, ho, _ => by
    rw [List.flatMap_cons, List.getElem?_append_left (by simp [chCells]; omega)]
    simp
  | c :: cs, i + 1, o, ho, h => by
    rw [List.flatMap_cons, List.getElem?_append_right (by simp [chCells]; omega)]
    have e : (i + 1) * 4 + o - (chCells mb c).length = i * 4 + o := by simp [chCells]; omega
    rw [e, flat_get mb cs i o ho (by simpa using h)]
    simp

theorem lies_of {w : World} {base mb j : Nat} {v : Value} {cs : List Ch} (h : w.ownsRow base 41 4 v j (cs.flatMap (chCells mb))) (hl : cs.length = j) :
    ∃ a cap, v = .slice a j cap ∧ (j = 0 ∨ ∃ g, a = some ⟨g, 0, none⟩ ∧ base ≤ g ∧ g < w.heap.size ∧ Lies w g mb j (fun i => cs[i]?.getD noCh)) := by
  rcases h.2 with ⟨rfl, rfl⟩ | ⟨g, cap, cur, rfl, hb, hg, hn, _, hs, ht⟩
  · exact ⟨none, 0, rfl, .inl rfl⟩
  · refine ⟨some ⟨g, 0, none⟩, cap, rfl, .inr ⟨g, rfl, hb, (Array.getElem?_eq_some_iff.1 hg).1, fun i hi => ?_⟩⟩
    have key : ∀ o, o < 4 → w.cell? ⟨g, i * 4 + o, none⟩ = (chCells mb (cs[i]?.getD noCh))[o]? := fun o ho => by
      rw [← flat_get mb cs i o ho (by omega), ← ht, List.getElem?_take, if_pos (by omega)]
      simp [World.cell?, hg]
    exact ⟨key 0 (by omega), key 1 (by omega), key 2 (by omega), key 3 (by omega)⟩

theorem backs_rev (cs : List Ch) : (backs (fun j => (j, cs[j]?.getD noCh)) cs.length 0).map Prod.snd = cs.reverse := by
  apply List.ext_getElem?
  intro i
  by_cases hi : i < cs.length
  · have h2 : cs.length - 1 - i < cs.length := by omega
    rw [List.getElem?_reverse hi]
    simp [backs, hi, h2]
  · rw [List.getElem?_eq_none (by simp [backs]; omega), List.getElem?_eq_none (by simp; omega)]

/-- What stands in the last loops. -/
structure Fin3 (w0 wr : World) (mb ab ob hb cb : Nat) (S S6 : Nat → Tab) : Prop where
  maps : Maps wr mb S6
  arr : ∀ s, s < 2 → wr.cell? ⟨ab, s, none⟩ = some (.map (some (mb + s)))
  org : ∀ s k : Nat, s < 2 → k < 16 → wr.cell? ⟨ob, s * 16 + k, none⟩ = some (.int .i64 (val (S s) k))
  has : ∀ s k : Nat, s < 2 → k < 16 → wr.cell? ⟨hb, s * 16 + k, none⟩ = some (.bool (held (S s) k))
  cnt : ∀ s, s < 2 → wr.cell? ⟨cb, s, none⟩ = some (.int .i64 (cnt (S s) 16))
  fr : Fr (fun _ => False) w0 wr

theorem Fin3.drewN {w0 wr : World} {mb ab ob hb cb : Nat} {S S6 : Nat → Tab} (h : Fin3 w0 wr mb ab ob hb cb S S6) (n : Nat) : Fin3 w0 (wr.drewN n) mb ab ob hb cb S S6 :=
  ⟨h.maps, h.arr, h.org, h.has, h.cnt, h.fr.drewN n⟩

theorem val_same {L L' : Tab} (e : ∀ k, get L k = get L' k) (k : Int) : val L k = val L' k := by unfold val; rw [e]
theorem held_same {L L' : Tab} (e : ∀ k, get L k = get L' k) (k : Int) : held L k = held L' k := by unfold held; rw [e]

theorem fin_look {w0 wr : World} {mb ab ob hb cb s : Nat} {S S6 : Nat → Tab} (h : Fin3 w0 wr mb ab ob hb cb S S6) (hg : AllGood S6) (e : Same S6 S) (hs : s < 2) (k : Int) :
    (Instr.lookup 24 (.map (some (mb + s))) (.int .i64 k) true).run Yba.prog wr = .ok (.tuple #[.int .i64 (val (S s) k), .bool (held (S s) k)]) wr := by
  have hlk := run_look keys3 Yba.underlying24 zero3 wr (mb + s) (S6 s) k (h.maps s hs) true
  rw [(hg s).look, val_same (e s)] at hlk
  have := held_same (e s) k
  unfold held at this ⊢
  rw [← this]
  exact hlk

theorem fin_len {w0 wr : World} {mb ab ob hb cb s : Nat} {S S6 : Nat → Tab} (h : Fin3 w0 wr mb ab ob hb cb S S6) (hg : AllGood S6) (hg' : AllGood S) (e : Same S6 S) (hk : ∀ s k, held (S s) k = true → 0 ≤ k ∧ k < 16) (hs : s < 2) (ty : TypeId) :
    (Builtin.len_ #[24] ty #[.map (some (mb + s))]).run Yba.prog wr = .ok (.int .i64 (AM.cnt (S s) 16)) wr := by
  rw [run_len Yba.underlying24 ty wr (mb + s) (S6 s) (h.maps s hs), Same.length (hg s) (hg' s) (e s), cnt_length (hg' s) (hk s)]
  rfl

set_option maxRecDepth 100000 in
set_option maxHeartbeats 1000000 in
theorem law_in (a0 a1 a2 : Option Addr) (l0 c0 l1 c1 l2 c2 : Nat) (x0 x1 os ks vs : Nat → Int) (w : World) (h0 : l0 ≤ 1024) (h1 : l1 ≤ 1024) (h2 : l2 ≤ 1024)
    (p0 : IntsAt w.heap.size w a0 l0 x0) (p1 : IntsAt w.heap.size w a1 l1 x1) (p2 : OpsAt w.heap.size w a2 l2 os ks vs) :
    Calls Yba.prog 3 #[.slice a0 l0 c0, .slice a1 l1 c1, .slice a2 l2 c2] w fun e w' => e = .returned (.bool true) ∧ Below w.heap.size w w' := by
  have d0 : decide ((1024 : Int) < l0) = false := by simp; omega
  have d1 : decide ((1024 : Int) < l1) = false := by simp; omega
  have d2 : decide ((1024 : Int) < l2) = false := by simp; omega
  have hmm := @run_makeMap Yba.prog
  go_enter Yba.func3, Yba.ntmps3
  go_wp2_with fail
  obtain ⟨mb, hmb⟩ : ∃ mb, mb = w.heap.size := ⟨_, rfl⟩
  obtain ⟨ab, hab⟩ : ∃ ab, ab = mb + 1 + 1 := ⟨_, rfl⟩
  obtain ⟨W1, hW1⟩ : ∃ W1, W1 = ((w.alloc (.map #[] 0)).alloc (.map #[] 0)).alloc (.cells #[.map (some mb), .map (some (mb + 1))] 25) := ⟨_, rfl⟩
  have hW1' := hW1
  rw [hmb] at hW1'
  rw [← hW1', ← hmb, ← hab]
  have hF1 : Fr (fun _ => False) w W1 := by rw [hW1]; exact (((Fr.refl _ _).alloc _).alloc _).alloc _
  have hcA : ∀ o, W1.cell? ⟨ab, o, none⟩ = (#[.map (some mb), .map (some (mb + 1))] : Array Value)[o]? := fun o => by
    have := World.cell?_alloc_new ((w.alloc (.map #[] 0)).alloc (.map #[] 0)) #[.map (some mb), .map (some (mb + 1))] 25 o
    rw [← hW1, World.size_alloc, World.size_alloc, ← hmb, ← hab] at this
    exact this
  have cA0 : W1.cell? ⟨ab, 0, none⟩ = some (.map (some mb)) := hcA 0
  have cA1 : W1.cell? ⟨ab, 1, none⟩ = some (.map (some (mb + 1))) := hcA 1
  have z1 : ab < W1.heap.size := by rw [hW1]; simp; omega
  have hM1 : Maps W1 mb (fun _ => []) := fun s hs => by
    have e : s = 0 ∨ s = 1 := by omega
    rcases e with rfl | rfl
    · refine (MapAt.new w).of_heap ?_ |> fun h => (by rw [hmb]; exact h)
      rw [hW1]; exact (Below.heap_alloc _ _ _ (by simp; omega)).trans (Below.heap_alloc _ _ _ (by simp))
    · have h := MapAt.new (enc := enc) (w.alloc (.map #[] 0))
      rw [World.size_alloc, ← hmb] at h
      exact h.of_heap (by rw [hW1]; exact Below.heap_alloc _ _ _ (by simp; omega))
  have hI1 : Ini W1 W1 mb (fun _ => []) := ⟨hM1, fun _ => good_nil, fun s k h => by simp [held, get] at h, Fr.refl _ _⟩
  have hwm : w.heap.size ≤ mb := by omega
  have hma : mb + 1 < ab := by omega
  have hq0 : IntsAt mb W1 a0 l0 x0 := by
    rcases p0 with h | ⟨b, off, e, hb, hc⟩
    · exact .inl h
    · exact .inr ⟨b, off, e, by omega, fun j hj => (hF1.cell (p := ⟨b, off + j, none⟩) hb (fun h => h)).trans (hc j hj)⟩
  have hq1 : IntsAt mb W1 a1 l1 x1 := by
    rcases p1 with h | ⟨b, off, e, hb, hc⟩
    · exact .inl h
    · exact .inr ⟨b, off, e, by omega, fun j hj => (hF1.cell (p := ⟨b, off + j, none⟩) hb (fun h => h)).trans (hc j hj)⟩
  have hq2 : OpsAt mb W1 a2 l2 os ks vs := by
    rcases p2 with h | ⟨b, off, e, hb, hc⟩
    · exact .inl h
    · exact .inr ⟨b, off, e, by omega, fun j hj => ⟨⟨(hF1.cell (p := ⟨b, off + j * 3, none⟩) hb (fun h => h)).trans (hc j hj).1.1, (hF1.cell (p := ⟨b, off + j * 3 + 1, none⟩) hb (fun h => h)).trans (hc j hj).1.2.1, (hF1.cell (p := ⟨b, off + j * 3 + 2, none⟩) hb (fun h => h)).trans (hc j hj).1.2.2⟩, (hc j hj).2⟩⟩
  clear hW1 hW1' hmb hab p0 p1 p2 hcA hM1 hmm
  go_loopw [46] (fun i wr => ∃ (k : Nat) (S : Nat → Tab), k ≤ l0 ∧ i = .int .i64 k ∧ Ini W1 wr mb S) (fun i _ => l0 - (intOf i).toNat)
  case atStart => exact ⟨0, _, Nat.zero_le _, rfl, hI1⟩
  case round =>
    obtain ⟨k, S, hk, rfl, hI⟩ := hrel
    clear hI1
    by_cases hlt : k < l0
    · rcases hq0 with h | ⟨b, off, rfl, hb, hc⟩
      · omega
      have q0 := (hI.fr.cell (p := ⟨ab, 0, none⟩) (by simp; omega) (by simp; omega)).trans cA0
      have q1 := (hI.fr.cell (p := ⟨b, off + k, none⟩) (by simp; omega) (by simp; omega)).trans (hc k hlt)
      obtain ⟨kk, hkk⟩ : ∃ kk : Int, kk = (k : Int) % 16 := ⟨_, rfl⟩
      have hkb : 0 ≤ kk ∧ kk < 16 := by rw [hkk]; omega
      obtain ⟨W', hst, hM', hT⟩ := run_store keys3 Yba.underlying24 wr (mb + 0) _ kk (.int .i64 (x0 k)) (hI.maps 0 (by omega))
      have hst' : (Instr.mapUpdate 24 (.map (some mb)) (.int .i64 kk) (.int .i64 (x0 k))).run Yba.prog wr = .ok () W' := hst
      rw [hkk] at hst'
      have Hend := Lib.hid (hI.step (by omega) hkb hM' hT)
      clear hst hM' hT hI hc hkk
      go_wp2_with fail
      go_roundw
      case rel => exact ⟨k + 1, _, by omega, by go_num, Hend.out⟩
      case measure => simp [intOf]; omega
    · clear hq0
      go_wp2_with fail
      go_loopw [59] (fun i w2 => ∃ (k : Nat) (S : Nat → Tab), k ≤ l1 ∧ i = .int .i64 k ∧ Ini W1 w2 mb S) (fun i _ => l1 - (intOf i).toNat)
      case atStart => exact ⟨0, _, Nat.zero_le _, rfl, hI⟩
      case round =>
        clear hI hlt hk
        obtain ⟨k, S, hk, rfl, hI⟩ := hrel
        by_cases hlt : k < l1
        · rcases hq1 with h | ⟨b, off, rfl, hb, hc⟩
          · omega
          have q0 := (hI.fr.cell (p := ⟨ab, 1, none⟩) (by simp; omega) (by simp; omega)).trans cA1
          have q1 := (hI.fr.cell (p := ⟨b, off + k, none⟩) (by simp; omega) (by simp; omega)).trans (hc k hlt)
          obtain ⟨kk, hkk⟩ : ∃ kk : Int, kk = (k : Int) % 16 := ⟨_, rfl⟩
          have hkb : 0 ≤ kk ∧ kk < 16 := by rw [hkk]; omega
          obtain ⟨W', hst, hM', hT⟩ := run_store keys3 Yba.underlying24 wr (mb + 1) _ kk (.int .i64 (x1 k)) (hI.maps 1 (by omega))
          have hst' : (Instr.mapUpdate 24 (.map (some (mb + 1))) (.int .i64 kk) (.int .i64 (x1 k))).run Yba.prog wr = .ok () W' := hst
          rw [hkk] at hst'
          have Hend := Lib.hid (hI.step (by omega) hkb hM' hT)
          clear hst hM' hT hI hc hkk
          go_wp2_with fail
          go_roundw
          case rel => exact ⟨k + 1, _, by omega, by go_num, Hend.out⟩
          case measure => simp [intOf]; omega
        · clear hq1
          go_wp2_with fail
          rw [z32_lit, f32_lit]
          obtain ⟨ob, hob⟩ : ∃ ob, ob = wr.heap.size := ⟨_, rfl⟩
          rw [← hob]
          obtain ⟨W2, hW2⟩ : ∃ W2, W2 = ((wr.alloc (.cells z32 27)).alloc (.cells f32 29)).alloc (.cells #[.int .i64 0, .int .i64 0] 30) := ⟨_, rfl⟩
          rw [← hW2]
          have hF2 : Fr (fun _ => False) wr W2 := by rw [hW2]; exact (((Fr.refl _ _).alloc _).alloc _).alloc _
          have hF12 : Fr (fun i => i = mb ∨ i = mb + 1) W1 W2 := hI.fr.trans hF2 (fun _ _ h => h.elim)
          have hM2 : Maps W2 mb S := hI.maps.fr hF2 (fun _ _ h => h)
          have bo : ∀ o, W2.cell? ⟨ob, o, none⟩ = z32[o]? := fun o => by rw [hW2, hob, World.cell?_alloc_lt _ _ _ (by simp; omega), World.cell?_alloc_lt _ _ _ (by simp)]; exact World.cell?_alloc_new _ _ _ _
          have bh : ∀ o, W2.cell? ⟨ob + 1, o, none⟩ = f32[o]? := fun o => by
            have := World.cell?_alloc_new (wr.alloc (.cells z32 27)) f32 29 o
            rw [World.size_alloc, ← hob] at this
            rw [hW2, World.cell?_alloc_lt _ _ _ (by simp; omega)]; exact this
          have bc : ∀ o, W2.cell? ⟨ob + 1 + 1, o, none⟩ = (#[.int .i64 0, .int .i64 0] : Array Value)[o]? := fun o => by
            have := World.cell?_alloc_new ((wr.alloc (.cells z32 27)).alloc (.cells f32 29)) #[.int .i64 0, .int .i64 0] 30 o
            rw [World.size_alloc, World.size_alloc, ← hob] at this
            rw [hW2]; exact this
          have z2 : ob + 3 ≤ W2.heap.size := by rw [hW2, hob]; simp
          have g2 : ob + 1 + 1 < W2.heap.size := by omega
          have hfz : ∀ b o, wr.heap.size ≤ b → W2.frozen? ⟨b, o, none⟩ = false := fun b o hb => by
            rw [hW2, frozen?_alloc_cells, frozen?_alloc_cells, frozen?_alloc_cells]
            simp only [World.frozen?, Array.getElem?_eq_none hb]
          have hFi : Fill W2 W2 ob (ob + 1) (ob + 1 + 1) S 0 0 := by
            refine ⟨fun i hi => ⟨.int .i64 0, ?_⟩, fun i hi => ⟨.bool false, ?_⟩, fun s' k' h h' => by omega, fun s' k' h h' => by omega, fun s' hs' => ?_, fun i => hfz _ _ (by omega), fun i => hfz _ _ (by omega), fun i => hfz _ _ (by omega), Fr.refl _ _⟩
            · rw [bo]; simp [z32, hi]
            · rw [bh]; simp [f32, hi]
            · rw [bc]
              have e : s' = 0 ∨ s' = 1 := by omega
              rcases e with rfl | rfl
              · rfl
              · rfl
          have hwo : W1.heap.size ≤ ob := by rw [hob]; exact hI.fr.size
          have cAs : ∀ s, s < 2 → W2.cell? ⟨ab, s, none⟩ = some (.map (some (mb + s))) := fun s hs => by
            have e : s = 0 ∨ s = 1 := by omega
            rcases e with rfl | rfl
            · exact (hF12.cell (p := ⟨ab, 0, none⟩) (by simp; omega) (by simp; omega)).trans cA0
            · exact (hF12.cell (p := ⟨ab, 1, none⟩) (by simp; omega) (by simp; omega)).trans cA1
          have HI := Lib.hid (And.intro hI.good (And.intro hI.keys (And.intro hF12 hM2)))
          clear hI hW2 hob bo bh bc hfz hF2 hF12 hM2 z2 hlt hk cA0 cA1
          go_loopw [15] (fun i w3 => ∃ s : Nat, s ≤ 2 ∧ i = .int .i64 s ∧ Fill W2 w3 ob (ob + 1) (ob + 1 + 1) S s 0) (fun i _ => 2 - (intOf i).toNat)
          case atStart => exact ⟨0, by omega, rfl, hFi⟩
          case round =>
            obtain ⟨s, hs, rfl, h3⟩ := hrel
            clear hFi
            by_cases hs2 : s < 2
            · go_wp2_with fail
              go_loopw [16] (fun i w4 => ∃ k : Nat, k ≤ 16 ∧ i = .int .i64 k ∧ Fill W2 w4 ob (ob + 1) (ob + 1 + 1) S s k) (fun i _ => 16 - (intOf i).toNat)
              case atStart => exact ⟨0, by omega, rfl, h3⟩
              case round =>
                obtain ⟨k, hk, rfl, h4⟩ := hrel
                clear h3
                by_cases hk16 : k < 16
                · have q0 := (h4.fr.cell (p := ⟨ab, s, none⟩) (by simp; omega) (by simp; omega)).trans (cAs s hs2)
                  have hlk := run_look keys3 Yba.underlying24 zero3 wr (mb + s) (S s) k (HI.out.2.2.2.fr h4.fr (fun s hs => by omega) s hs2) true
                  rw [(HI.out.1 s).look] at hlk
                  have hlk' : (Instr.lookup 24 (.map (some (mb + s))) (.int .i64 k) true).run Yba.prog wr = .ok (.tuple #[.int .i64 (val (S s) k), .bool (held (S s) k)]) wr := hlk
                  obtain ⟨vo, e0⟩ := h4.oat (s * 16 + k) (by omega)
                  obtain ⟨vh, e1⟩ := h4.hat (s * 16 + k) (by omega)
                  have e2 := h4.cnt s hs2
                  rw [if_neg (by omega), if_pos rfl] at e2
                  have f0 := h4.fzo (s * 16 + k)
                  have f1 := h4.fzh (s * 16 + k)
                  have f2 := h4.fzc s
                  have hst := fill_stores h4 hs2 hk16 (by omega) (by omega) (by omega)
                  have H4 := Lib.hid hst
                  clear hlk h4 hst cAs
                  obtain ⟨vl, hvl⟩ : ∃ vl, vl = val (S s) k := ⟨_, rfl⟩
                  rw [← hvl] at hlk'
                  have hcn : cnt (S s) k ≤ 16 := Nat.le_trans (cnt_le _ _) (by omega)
                  cases hh : held (S s) k with
                  | false =>
                    rw [hh] at hlk'
                    go_wp2_with fail
                    go_roundw
                    case rel => exact ⟨k + 1, by omega, by go_num, H4.out.1 hh⟩
                    case measure => simp [intOf]; omega
                  | true =>
                    rw [hh] at hlk'
                    go_wp2_with fail
                    go_roundw
                    case rel => exact ⟨k + 1, by omega, by go_num, H4.out.2 hh⟩
                    case measure => simp [intOf]; omega
                · obtain rfl : k = 16 := by omega
                  go_wp2_with fail
                  go_roundw
                  case rel => exact ⟨s + 1, by omega, by go_num, fill_next h4⟩
                  case measure => simp [intOf]; omega
            · obtain rfl : s = 2 := by omega
              go_wp2_with fail
              obtain ⟨lb, hlb⟩ : ∃ lb, lb = wr.heap.size := ⟨_, rfl⟩
              rw [← hlb]
              rename World => W3
              obtain ⟨W4, hW4⟩ : ∃ W4, W4 = W3.alloc (.cells #[.slice none 0 0] 35) := ⟨_, rfl⟩
              rw [← hW4]
              have hF13 : Fr (fun i => i = mb ∨ i = mb + 1 ∨ ob ≤ i) W1 W3 := (HI.out.2.2.1.mono (fun i _ h => by omega)).trans h3.fr (fun i _ h => by omega)
              have z13 := h3.fr.size
              have hF3 : Fr (fun _ => False) w W3 := hF1.trans hF13 (fun i hi h => by have := hF1.size; omega)
              have hM3 : Maps W3 mb S := HI.out.2.2.2.fr h3.fr (fun s hs => by omega)
              have cA3 : ∀ s, s < 2 → W3.cell? ⟨ab, s, none⟩ = some (.map (some (mb + s))) := fun s hs => (h3.fr.cell (p := ⟨ab, s, none⟩) (by simp; omega) (by simp; omega)).trans (cAs s hs)
              have hq3 : OpsAt mb W3 a2 l2 os ks vs := by
                rcases hq2 with h | ⟨b, off, e, hb, hc⟩
                · exact .inl h
                · exact .inr ⟨b, off, e, by omega, fun j hj => ⟨⟨(hF13.cell (p := ⟨b, off + j * 3, none⟩) (by simp; omega) (by simp; omega)).trans (hc j hj).1.1, (hF13.cell (p := ⟨b, off + j * 3 + 1, none⟩) (by simp; omega) (by simp; omega)).trans (hc j hj).1.2.1, (hF13.cell (p := ⟨b, off + j * 3 + 2, none⟩) (by simp; omega) (by simp; omega)).trans (hc j hj).1.2.2⟩, (hc j hj).2⟩⟩
              have hLog : Log W3 W4 mb lb 0 S S [] (.slice none 0 0) := by
                refine ⟨hM3.fr (by rw [hW4]; exact (Fr.refl (fun _ => False) _).alloc _) (fun _ _ h => h), HI.out.1, ?_, ?_, World.ownsRow_nil _ _ _ _, rfl, fun _ _ => rfl, by rw [hW4]; exact (Fr.refl _ _).alloc _⟩
                · rw [hW4, hlb]; exact World.cell?_alloc_new _ _ _ _
                · rw [hW4, hlb]; simp
              have z4 : lb < W4.heap.size := by rw [hW4, hlb]; simp
              have hlw : lb ≤ W3.heap.size := by omega
              have hol : ob + 1 + 1 < lb := by omega
              have H3 := Lib.hid (And.intro h3 (And.intro hF3 hM3))
              clear h3 hF13 hF3 hM3 hF1 hq2 cAs hW4 hlb hs hs2 z13
              rw [show ((2 : Nat) : Int) = 2 from rfl]
              go_loopw [106] (fun i w5 => ∃ (j : Nat) (S' : Nat → Tab) (cs : List Ch) (v : Value), j ≤ l2 ∧ i = .int .i64 j ∧ Log W3 w5 mb lb j S S' cs v) (fun i _ => l2 - (intOf i).toNat)
              case atStart => exact ⟨0, S, [], _, by omega, rfl, hLog⟩
              case round =>
                obtain ⟨j, S', cs, v, hj, rfl, h5⟩ := hrel
                clear hLog
                have z5 : W3.heap.size ≤ wr.heap.size := h5.fr.size
                by_cases hlt : j < l2
                · rcases hq3 with h | ⟨b, off, rfl, hb, hc⟩
                  · omega
                  obtain ⟨⟨r0, r1, r2⟩, bo, bk⟩ := hc j hlt
                  have q0 : wr.cell? ⟨b, off + j * 3, none⟩ = _ := (h5.fr.cell (p := ⟨b, off + j * 3, none⟩) (by simp; omega) (by simp; omega)).trans r0
                  have q1 : wr.cell? ⟨b, off + j * 3 + 1, none⟩ = _ := (h5.fr.cell (p := ⟨b, off + j * 3 + 1, none⟩) (by simp; omega) (by simp; omega)).trans r1
                  have q2 : wr.cell? ⟨b, off + j * 3 + 2, none⟩ = _ := (h5.fr.cell (p := ⟨b, off + j * 3 + 2, none⟩) (by simp; omega) (by simp; omega)).trans r2
                  obtain ⟨o, ho⟩ : ∃ o, o = os j := ⟨_, rfl⟩
                  obtain ⟨ky, hky⟩ : ∃ ky, ky = ks j := ⟨_, rfl⟩
                  obtain ⟨z, hz⟩ : ∃ z, z = vs j := ⟨_, rfl⟩
                  rw [← ho] at q0 bo
                  rw [← hky] at q1 bk
                  rw [← hz] at q2
                  obtain ⟨s, hs, hb1⟩ := and1 o bo
                  have q3 : wr.cell? ⟨ab, s, none⟩ = some (.map (some (mb + s))) := (h5.fr.cell (p := ⟨ab, s, none⟩) (by simp; omega) (by simp; omega)).trans (cA3 s hs)
                  obtain ⟨Wa, hWa⟩ : ∃ Wa, Wa = wr.alloc (.cells #[.int .u8 o, .int .u8 ky, .int .i64 z] 37) := ⟨_, rfl⟩
                  obtain ⟨t, ht⟩ : ∃ t, t = wr.heap.size := ⟨_, rfl⟩
                  have hFa : Fr (fun _ => False) wr Wa := by rw [hWa]; exact (Fr.refl _ _).alloc _
                  have hta : ∀ i, Wa.cell? ⟨t, i, none⟩ = (#[.int .u8 o, .int .u8 ky, .int .i64 z] : Array Value)[i]? := fun i => by rw [hWa, ht]; exact World.cell?_alloc_new _ _ _ _
                  have htl : t < Wa.heap.size := by rw [hWa, ht]; simp
                  have hlbw : lb < wr.heap.size := World.block_lt_of_cell? _ _ h5.cell
                  obtain ⟨kk, hkk⟩ : ∃ kk : Int, kk = ky % 16 := ⟨_, rfl⟩
                  have hrec := record_in lb mb (lb + 1) j ⟨s, hs, kk, val (S' s) kk, held (S' s) kk⟩ (S' s) (cs.flatMap (chCells mb)) v Wa (h5.good s) ((h5.maps s hs).of_heap (hFa.block _ (h5.maps s hs).lt (fun h => h))) rfl rfl
                    ((hFa.cell (p := ⟨lb, 0, none⟩) hlbw (fun h => h)).trans h5.cell) ((hFa.frozen (p := ⟨lb, 0, none⟩) hlbw (fun h => h)).trans h5.fz) (h5.own.kept (row := none) (by rw [hWa]; exact World.grownBy_alloc wr _ none) (by cases hv : v.ownBlock <;> simp)) (by omega) (by omega) (by omega)
                  have hvt : ∀ i, v.ownBlock = some i → i ≠ t ∧ lb < i := fun i e => by have := h5.own.lt i e; omega
                  have hta0 := hta 0
                  have hta1 := hta 1
                  have hta2 := hta 2
                  have hab3 : Wa.cell? ⟨ab, s, none⟩ = some (.map (some (mb + s))) := (hFa.cell (p := ⟨ab, s, none⟩) (by simp; omega) (fun h => h)).trans q3
                  have Hm := Lib.hid ((h5.maps s hs).of_heap (hFa.block _ (h5.maps s hs).lt (fun h => h)))
                  have H5 := Lib.hid (And.intro h5 (And.intro hrec (And.intro hvt (And.intro hFa (And.intro hta0 (And.intro hta1 (And.intro hta2 hab3)))))))
                  have Hw := Lib.hid (And.intro hWa (And.intro ht hkk))
                  have hmt : mb + 1 < t := by omega
                  have hat : ab < t := by omega
                  have hatw : ab < Wa.heap.size := by omega
                  have hlt' : lb < t := by omega
                  clear hc r0 r1 r2 h5 ho hky hz hrec hvt hta hta0 hta1 hta2 hWa ht hFa hab3 hkk
                  have habw : ab < wr.heap.size := by omega
                  go_wp2_with fail
                  rw [← Hw.out.1, ← Hw.out.2.1, ← Hw.out.2.2]
                  refine (H5.out.2.1).mono ?_
                  rintro e wb ⟨rfl, v', c', f', o', F'⟩
                  have szb := F'.size
                  have g0 : wb.cell? ⟨t, 0, none⟩ = some (.int .u8 o) := (F'.cell (p := ⟨t, 0, none⟩) htl (fun h => by rcases h with h | h; simp at h; omega; exact (H5.out.2.2.1 _ h).1 rfl)).trans H5.out.2.2.2.2.1
                  have g2 : wb.cell? ⟨t, 2, none⟩ = some (.int .i64 z) := (F'.cell (p := ⟨t, 2, none⟩) htl (fun h => by rcases h with h | h; simp at h; omega; exact (H5.out.2.2.1 _ h).1 rfl)).trans H5.out.2.2.2.2.2.2.1
                  have g3 : wb.cell? ⟨ab, s, none⟩ = some (.map (some (mb + s))) := (F'.cell (p := ⟨ab, s, none⟩) hatw (fun h => by rcases h with h | h; simp at h; omega; have := (H5.out.2.2.1 _ h).2; simp at this; omega)).trans H5.out.2.2.2.2.2.2.2
                  have hmw := Hm.out.of_heap (F'.block (mb + s) Hm.out.lt (fun h => by rcases h with h | h; omega; have := (H5.out.2.2.1 _ h).2; omega))
                  have Ho := Lib.hid (And.intro c' (And.intro f' (And.intro o' F')))
                  clear c' f' o' F' q0 q1 q2 q3 cA3
                  by_cases hb2 : bits .and .u8 o 2 = 0
                  · obtain ⟨nb, hst⟩ := run_store_all keys3 Yba.underlying24 wb (mb + s) (S' s) kk (.int .i64 z) hmw
                    have hst' : (Instr.mapUpdate 24 (.map (some (mb + s))) (.int .i64 kk) (.int .i64 z)).run Yba.prog wb.drew = .ok () (ChangeMaps.setBlock wb.drew (mb + s) nb) := (hst wb.drew rfl).1
                    have Hst := Lib.hid hst
                    clear hst hmw
                    go_wp2_with fail
                    go_region
                    all_goals
                      go_wp2_with fail
                      go_roundw
                      case rel => exact ⟨j + 1, _, _, _, by omega, by go_num, log_step (wb := wb.drew) (st := true) (z := z) H5.out.1 hs (by omega) H5.out.2.2.2.1 Ho.out.1 Ho.out.2.1 Ho.out.2.2.1 Ho.out.2.2.2.drew (Hst.out wb.drew rfl).2.1 (Hst.out wb.drew rfl).2.2⟩
                      case measure => simp [intOf]; omega
                  · obtain ⟨wc, hst, hm', ht'⟩ := run_drop keys3 Yba.underlying24 #[24, 3] rfl 0 wb (mb + s) (S' s) kk hmw
                    have hst' : (Builtin.delete_ #[24, 3] 0 #[.map (some (mb + s)), .int .i64 kk]).run Yba.prog wb = .ok (.tuple #[]) wc := hst
                    have Hst := Lib.hid (And.intro hm' ht')
                    clear hst hmw hm' ht'
                    go_wp2_with fail
                    go_roundw
                    case rel => exact ⟨j + 1, _, _, _, by omega, by go_num, log_step (st := false) (z := z) H5.out.1 hs (by omega) H5.out.2.2.2.1 Ho.out.1 Ho.out.2.1 Ho.out.2.2.1 Ho.out.2.2.2 Hst.out.1 Hst.out.2⟩
                    case measure => simp [intOf]; omega
                · obtain rfl : j = l2 := by omega
                  clear hq3
                  obtain ⟨a, cap, rfl, hsl⟩ := lies_of h5.own h5.len
                  have hcell := h5.cell
                  have hlbw : lb < wr.heap.size := World.block_lt_of_cell? _ _ hcell
                  have hrev := revert_in lb mb j cap a (fun i => cs[i]?.getD noCh) S' wr h2 (by omega) hcell h5.maps (by
                    rcases hsl with h | ⟨g, h1, h2, h3, h4⟩
                    · exact .inl h
                    · exact .inr ⟨g, h1, h3, by omega, by omega, h4⟩)
                  have hrv : (backs (fun j => (j, cs[j]?.getD noCh)) j 0).map Prod.snd = cs.reverse := by rw [← h5.len]; exact backs_rev cs
                  have hfin : ∀ W6, Inv wr mb S' (backs (fun j => (j, cs[j]?.getD noCh)) j 0) W6 → Fin3 w W6 mb ab ob (ob + 1) (ob + 1 + 1) S (undoAll S' cs.reverse) ∧ W6.cell? ⟨lb, 0, none⟩ = some (.slice a j cap) := fun W6 hI => by
                    have hF : Fr (fun i => i = mb ∨ i = mb + 1 ∨ lb ≤ i) W3 W6 := h5.fr.trans hI.2 (fun i _ h => by omega)
                    refine ⟨⟨by rw [← hrv]; exact hI.1, fun s hs => (hF.cell (p := ⟨ab, s, none⟩) (by simp; omega) (by simp; omega)).trans (cA3 s hs), fun s k hs hk => (hF.cell (p := ⟨ob, s * 16 + k, none⟩) (by simp; omega) (by simp; omega)).trans (H3.out.1.org s k hk (.inl hs)),
                      fun s k hs hk => (hF.cell (p := ⟨ob + 1, s * 16 + k, none⟩) (by simp; omega) (by simp; omega)).trans (H3.out.1.has s k hk (.inl hs)), fun s hs => ?_, H3.out.2.1.trans hF (fun i hi h => by omega)⟩, ?_⟩
                    · have := H3.out.1.cnt s hs
                      rw [if_pos hs] at this
                      exact (hF.cell (p := ⟨ob + 1 + 1, s, none⟩) (by simp; omega) (by simp; omega)).trans this
                    · exact (hI.2.cell (p := ⟨lb, 0, none⟩) hlbw (by simp; omega)).trans hcell
                  have hG6 : AllGood (undoAll S' cs.reverse) := AllGood.undoAll _ h5.good
                  have hS6 := h5.same
                  obtain ⟨S6, hS6e⟩ : ∃ S6, S6 = undoAll S' cs.reverse := ⟨_, rfl⟩
                  rw [← hS6e] at hG6 hS6 hfin
                  have Hr := Lib.hid (And.intro hrev hfin)
                  have HS := Lib.hid (And.intro hG6 hS6)
                  clear hrev hfin hrv hS6e h5 hcell hsl cA3 hG6 hS6
                  go_wp2_with fail
                  refine (Hr.out.1).mono ?_
                  rintro e W6 ⟨rfl, hInv⟩
                  obtain ⟨h6, hc6⟩ := Hr.out.2 W6 hInv
                  have H6 := Lib.hid h6
                  clear hInv h6 Hr
                  go_wp2_with fail
                  go_loopw [24] (fun i w7 => ∃ s : Nat, s ≤ 2 ∧ i = .int .i64 s ∧ Fin3 w w7 mb ab ob (ob + 1) (ob + 1 + 1) S S6) (fun i _ => 2 - (intOf i).toNat)
                  case atStart => exact ⟨0, by omega, rfl, H6.out⟩
                  case round =>
                    obtain ⟨s, hs, rfl, h7⟩ := hrel
                    clear H6 hc6
                    by_cases hs2 : s < 2
                    · have q0 := h7.arr s hs2
                      have q1 := h7.cnt s hs2
                      have hln : ∀ n, (Builtin.len_ #[24] 3 #[.map (some (mb + s))]).run Yba.prog (wr.drewN n) = .ok (.int .i64 (cnt (S s) 16)) (wr.drewN n) := fun n => fin_len (h7.drewN n) HS.out.1 HI.out.1 HS.out.2 HI.out.2.1 hs2 3
                      have H7 := Lib.hid h7
                      clear h7
                      go_wp2_with fail
                      go_quiet (fail)
                      go_wp2_with fail
                      have h8 := H7.out.drewN nq
                      clear H7 hln q0 q1
                      go_loopw [25] (fun i w8 => ∃ k : Nat, k ≤ 16 ∧ i = .int .i64 k ∧ Fin3 w w8 mb ab ob (ob + 1) (ob + 1 + 1) S S6) (fun i _ => 16 - (intOf i).toNat)
                      case atStart => exact ⟨0, by omega, rfl, h8⟩
                      case round =>
                        obtain ⟨k, hk, rfl, h9⟩ := hrel
                        clear h8
                        by_cases hk16 : k < 16
                        · have q0 := h9.arr s hs2
                          have q1 := h9.org s k hs2 hk16
                          have q2 := h9.has s k hs2 hk16
                          have hlk := fin_look h9 HS.out.1 HS.out.2 hs2 k
                          have H9 := Lib.hid h9
                          clear h9
                          obtain ⟨vl, hvl⟩ : ∃ vl, vl = val (S s) k := ⟨_, rfl⟩
                          obtain ⟨hd, hhd⟩ : ∃ hd, hd = held (S s) k := ⟨_, rfl⟩
                          rw [← hvl] at q1 hlk
                          rw [← hhd] at q2 hlk
                          clear hvl hhd
                          cases hd
                          all_goals
                            go_wp2_with fail
                            go_roundw
                            case rel => exact ⟨k + 1, by omega, by go_num, H9.out⟩
                            case measure => simp [intOf]; omega
                        · go_wp2_with fail
                          go_roundw
                          case rel => exact ⟨s + 1, by omega, by go_num, h9⟩
                          case measure => simp [intOf]; omega
                    · go_wp2_with fail
                      go_ret
                      exact ⟨rfl, h7.fr.below (fun _ _ h => h)⟩
end Go.Proofs.Ybulkbsia.AM
