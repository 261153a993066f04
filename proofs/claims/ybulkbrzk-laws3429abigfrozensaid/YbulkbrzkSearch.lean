/-
  search: the first entry that is not below the key.
-/
import Derived.Test.YbulkbrzkNode
namespace Go.Proofs.Ybulkbrzk.BT
open Go Go.RowKit
set_option linter.unusedVariables false

theorem row_cell {w : World} {base e sz n b cap len : Nat} {xs : List Value} (h : w.ownsRow base e sz (.slice (some ⟨b, 0, none⟩) len cap) n xs) (j : Nat) (hj : j < n * sz) : w.cell? ⟨b, j, none⟩ = xs[j]? := by
  rcases h.2 with ⟨h', _⟩ | ⟨g, cap', cur, e', hb, hg, hn, _, hs, ht⟩
  · cases h'
  · simp at e'
    obtain ⟨rfl, _, _⟩ := e'
    rw [← ht, List.getElem?_take, if_pos hj]
    simp [World.cell?, hg]

theorem flat_get : ∀ (es : List E) (i o : Nat), o < 2 → i < es.length → (es.flatMap eCells)[i * 2 + o]? = (eCells (es[i]?.getD (⟨#[]⟩, 0)))[o]?
  | [], i, o, _, h => by simp at h
  | c :: cs, 0, o, ho, _ => by
    rw [List.flatMap_cons, List.getElem?_append_left (by simp [eCells]; omega)]
    simp
  | c :: cs, i + 1, o, ho, h => by
    rw [List.flatMap_cons, List.getElem?_append_right (by simp [eCells]; omega)]
    have e : (i + 1) * 2 + o - (eCells c).length = i * 2 + o := by simp [eCells]; omega
    rw [e, flat_get cs i o ho (by simpa using h)]
    simp

/-- key number j -/
def keyAt (es : List E) (j : Nat) : ByteArray := (es[j]?.getD (⟨#[]⟩, 0)).1
def valAt (es : List E) (j : Nat) : Int := (es[j]?.getD (⟨#[]⟩, 0)).2

theorem entry_cells {w : World} {base eb cap : Nat} {es : List E} (h : w.ownsRow base 30 2 (.slice (some ⟨eb, 0, none⟩) es.length cap) es.length (es.flatMap eCells)) (j : Nat) (hj : j < es.length) :
    w.cell? ⟨eb, j * 2, none⟩ = some (.string (keyAt es j)) ∧ w.cell? ⟨eb, j * 2 + 1, none⟩ = some (.int .i64 (valAt es j)) := by
  have a := row_cell h (j * 2 + 0) (by omega)
  have b := row_cell h (j * 2 + 1) (by omega)
  rw [flat_get es j _ (by omega) hj] at a b
  exact ⟨a, b⟩

theorem less_irrefl : ∀ a : List UInt8, Op.bytesLess a a = false
  | [] => rfl
  | a :: x => by simp [Op.bytesLess, less_irrefl x]

theorem less_trans : ∀ a b c : List UInt8, Op.bytesLess a b = true → Op.bytesLess b c = true → Op.bytesLess a c = true
  | _, [], _, h, _ => by simp [Op.bytesLess] at h
  | _, _ :: _, [], _, h => by simp [Op.bytesLess] at h
  | [], _ :: _, _ :: _, _, _ => rfl
  | a :: x, b :: y, c :: z, h, k => by
    simp only [Op.bytesLess, Bool.or_eq_true, decide_eq_true_eq, Bool.and_eq_true, beq_iff_eq] at h k ⊢
    rcases h with h | ⟨rfl, h⟩
    · rcases k with k | ⟨rfl, k⟩
      · exact .inl (UInt8.lt_trans h k)
      · exact .inl h
    · rcases k with k | ⟨rfl, k⟩
      · exact .inl k
      · exact .inr ⟨rfl, less_trans x y z h k⟩

theorem less_total : ∀ a b : List UInt8, Op.bytesLess a b = false → a ≠ b → Op.bytesLess b a = true
  | [], [], _, h => absurd rfl h
  | [], _ :: _, h, _ => by simp [Op.bytesLess] at h
  | _ :: _, [], _, _ => rfl
  | a :: x, b :: y, h, hn => by
    simp only [Op.bytesLess, Bool.or_eq_false_iff, decide_eq_false_iff_not, Bool.and_eq_false_iff] at h
    simp only [Op.bytesLess, Bool.or_eq_true, decide_eq_true_eq, Bool.and_eq_true, beq_iff_eq]
    by_cases e : a = b
    · subst e
      refine .inr ⟨rfl, less_total x y ?_ (fun e => hn (by rw [e]))⟩
      rcases h.2 with h' | h'
      · simp at h'
      · exact h'
    · refine .inl ?_
      have h1 := h.1
      rw [UInt8.lt_iff_toNat_lt] at h1 ⊢
      have : a.toNat ≠ b.toNat := fun e' => e (UInt8.toNat_inj.1 e')
      omega

/-- the strings' order -/
def Lt (a b : ByteArray) : Prop := Op.bytesLess a.toList b.toList = true
theorem toList_inj {a b : ByteArray} (h : a.toList = b.toList) : a = b := by
  rw [ByteArray.toList_eq, ByteArray.toList_eq] at h
  obtain ⟨⟨x⟩⟩ := a
  obtain ⟨⟨y⟩⟩ := b
  simp at h
  rw [h]
theorem Lt.irrefl {a : ByteArray} (h : Lt a a) : False := by unfold Lt at h; rw [less_irrefl] at h; cases h
theorem Lt.trans {a b c : ByteArray} (h : Lt a b) (k : Lt b c) : Lt a c := less_trans _ _ _ h k
theorem Lt.total {a b : ByteArray} (h : ¬ Lt a b) (hn : a ≠ b) : Lt b a := less_total _ _ (by unfold Lt at h; simpa using h) (fun e => hn (toList_inj e))
theorem Lt.asymm {a b : ByteArray} (h : Lt a b) (k : Lt b a) : False := (h.trans k).irrefl
theorem Lt.ne {a b : ByteArray} (h : Lt a b) : a ≠ b := fun e => by subst e; exact h.irrefl

def Sorted (es : List E) : Prop := es.Pairwise fun a b => Lt a.1 b.1

theorem Sorted.key {es : List E} (h : Sorted es) {i j : Nat} (hij : i < j) (hj : j < es.length) : Lt (keyAt es i) (keyAt es j) := by
  unfold keyAt
  have hi : i < es.length := by omega
  simp only [List.getElem?_eq_getElem hi, List.getElem?_eq_getElem hj, Option.getD_some]
  exact List.pairwise_iff_getElem.1 h i j hi hj hij

/-- the place of a key: the entries below it, those not below it, whether it is there -/
structure Place (es : List E) (key : ByteArray) (i : Nat) (found : Bool) : Prop where
  le : i ≤ es.length
  low : ∀ j, j < i → Lt (keyAt es j) key
  high : ∀ j, i ≤ j → j < es.length → ¬ Lt (keyAt es j) key
  hit : found = true → i < es.length ∧ keyAt es i = key
  miss : found = false → ∀ j, j < es.length → keyAt es j ≠ key

set_option maxRecDepth 100000 in
set_option maxHeartbeats 2000000 in
theorem search_in (b g eb cap : Nat) (s y : Int) (kv : Value) (es : List E) (key : ByteArray) (w : World) (hn : w.heap[b]? = some (nodeObj g s y (.slice (some ⟨eb, 0, none⟩) es.length cap) kv))
    (he : w.ownsRow 0 30 2 (.slice (some ⟨eb, 0, none⟩) es.length cap) es.length (es.flatMap eCells)) (hl : es.length ≤ 4096) (hS : Sorted es) :
    Calls Yba.prog 30 #[.pointer (some ⟨b, 0, none⟩), .string key] w fun e w' => ∃ (i : Nat) (f : Bool) (q : Nat), e = .returned (.tuple #[.int .i64 i, .bool f]) ∧ w' = w.drewN q ∧ Place es key i f := by
  have c3 : w.cell? ⟨b, 3, none⟩ = some (.slice (some ⟨eb, 0, none⟩) es.length cap) := node_cell hn 3
  have hb : b < w.heap.size := (Array.getElem?_eq_some_iff.1 hn).1
  obtain ⟨L, hL⟩ : ∃ L, L = es.length := ⟨_, rfl⟩
  rw [← hL] at c3
  have HL := Lib.hid (And.intro hL (And.intro he hl))
  have hl' : L ≤ 4096 := by omega
  clear hL he hl hn
  go_enter Yba.func30, Yba.ntmps30
  go_wp2_with fail
  go_quiet (fail)
  go_wp2_with fail
  go_loopw [6, 7] (fun i j wr => ∃ (lo hi q : Nat), i = .int .i64 lo ∧ j = .int .i64 hi ∧ lo ≤ hi ∧ hi ≤ L ∧ wr = w.drewN q ∧ (∀ j, j < lo → Lt (keyAt es j) key) ∧ (∀ j, hi ≤ j → j < L → ¬ Lt (keyAt es j) key)) (fun i j _ => (intOf j).toNat - (intOf i).toNat)
  case atStart => exact ⟨0, L, nq, rfl, rfl, by omega, by omega, rfl, fun j h => by omega, fun j h h' => by omega⟩
  case round =>
    obtain ⟨lo, hi, q, rfl, rfl, h1, h2, rfl, hlow, hhigh⟩ := hrel
    have Hlh := Lib.hid (And.intro hlow hhigh)
    clear hlow hhigh
    by_cases hlt : lo < hi
    · obtain ⟨e0, e1⟩ := entry_cells HL.out.2.1 ((lo + hi) / 2) (by have := HL.out.1; omega)
      have hm : (lo + hi) / 2 < L := by omega
      go_wp2_with fail
      · rename_i hless
        go_roundw
        case rel => exact ⟨(lo + hi) / 2 + 1, hi, q, by go_num, rfl, by omega, by omega, rfl, fun j hj => by
          by_cases e : j = (lo + hi) / 2
          · rw [e]; exact hless
          · exact (hS.key (show j < (lo + hi) / 2 by omega) (by have := HL.out.1; omega)).trans hless, Hlh.out.2⟩
        case measure => simp [intOf]; omega
      · rename_i hless
        go_roundw
        case rel => exact ⟨lo, (lo + hi) / 2, q, rfl, by go_num, by omega, by omega, rfl, Hlh.out.1, fun j hj hj' => by
          have hm' : ¬ Lt (keyAt es ((lo + hi) / 2)) key := by unfold Lt; simpa using hless
          by_cases e : j = (lo + hi) / 2
          · rw [e]; exact hm'
          · exact fun h => hm' ((hS.key (show (lo + hi) / 2 < j by omega) (by have := HL.out.1; omega)).trans h)⟩
        case measure => simp [intOf]; omega
    · obtain rfl : lo = hi := by omega
      have hLe := HL.out.1
      by_cases hlo : lo < L
      · obtain ⟨e0, e1⟩ := entry_cells HL.out.2.1 lo (by omega)
        have d : decide ((lo : Int) < L) = true := by simp; omega
        clear hLe
        go_wp2_with fail
        go_quiet (fail)
        go_wp2_with fail
        go_ret2
        have hLe := HL.out.1
        refine ⟨lo, _, q + nq, rfl, by simp [World.drewN_drewN], by omega, Hlh.out.1, fun j h h' => Hlh.out.2 j h (by omega), fun h => ⟨by omega, toList_inj (by simpa using h)⟩, fun h j hj e => ?_⟩
        have hne : keyAt es lo ≠ key := fun e' => by rw [e'] at h; simp at h
        rcases Nat.lt_trichotomy j lo with c | c | c
        · exact (Hlh.out.1 j c).ne e
        · exact hne (by rw [← c]; exact e)
        · have a := hS.key c hj
          rw [e] at a
          exact Hlh.out.2 lo (Nat.le_refl _) hlo a
      · have d : decide ((lo : Int) < L) = false := by simp; omega
        clear hLe
        go_wp2_with fail
        go_region
        all_goals
          go_wp2_with fail
          go_ret2
          have hLe := HL.out.1
          refine ⟨lo, false, q + 1, rfl, ?_, by omega, Hlh.out.1, fun j h h' => Hlh.out.2 j h (by omega), fun h => (by cases h), fun h j hj e => (Hlh.out.1 j (by omega)).ne e⟩
          rfl
end Go.Proofs.Ybulkbrzk.BT
