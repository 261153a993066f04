/-
  The B-tree in memory: a ghost tree by height, its entries in order, its own blocks.
-/
import Derived.Test.YbulkbrzkFr
namespace Go.Proofs.Ybulkbrzk.BT
open Go
set_option linter.unusedVariables false

abbrev E := ByteArray × Int
/-- an entry's two cells -/
def eCells (e : E) : List Value := [.string e.1, .int .i64 e.2]
def eVal (e : E) : Value := .agg #[.string e.1, .int .i64 e.2]

/-- a node: its block, its entries' block, its kids' block, its generation, its entries -/
structure Nd where
  b : Nat
  eb : Nat
  kb : Nat
  gen : Nat
  es : List E

def GT : Nat → Type
  | 0 => Nd
  | h + 1 => Nd × List (GT h)

def GT.nd : {h : Nat} → GT h → Nd
  | 0, n => n
  | _ + 1, t => t.1

def GT.ptr {h : Nat} (t : GT h) : Value := .pointer (some ⟨t.nd.b, 0, none⟩)

/-- the kids' entries and the node's own, in order -/
def weave : List (List E) → List E → List E
  | [], es => es
  | a :: _, [] => a
  | a :: l, e :: es => a ++ e :: weave l es

def GT.flat : {h : Nat} → GT h → List E
  | 0, n => n.es
  | _ + 1, t => weave (t.2.map GT.flat) t.1.es

/-- a node's own blocks, where it is of the generation g -/
def Nd.own (g : Nat) (kid : Bool) (n : Nd) : List Nat := if n.gen = g then n.b :: n.eb :: (if kid then [n.kb] else []) else []

def GT.fp (g : Nat) : {h : Nat} → GT h → List Nat
  | 0, n => n.own g false
  | _ + 1, t => t.1.own g true ++ t.2.flatMap (GT.fp g)

/-- the bytes of the keys -/
def bytes : List E → Nat
  | [] => 0
  | e :: es => e.1.size + bytes es

theorem bytes_append : ∀ (a b : List E), bytes (a ++ b) = bytes a + bytes b
  | [], b => by simp [bytes]
  | e :: a, b => by simp [bytes, bytes_append a b]; omega

/-- what an int holds of a sum -/
def wr (x : Int) : Int := IntKind.wrap .i64 x

def ptrs (l : List Nat) : List Value := l.map fun b => .pointer (some ⟨b, 0, none⟩)

/-- The kids' slice: nil in a leaf. -/
def KidsAt (W : World) (kb : Nat) (ks : Option (List Nat)) (kv : Value) : Prop :=
  match ks with
  | none => kv = .slice none 0 0
  | some l => ∃ cap, kv = .slice (some ⟨kb, 0, none⟩) l.length cap ∧ W.ownsRow 0 23 1 kv l.length (ptrs l)

/-- The node's cells in memory. -/
def NodeAt (W : World) (n : Nd) (sz by_ : Int) (ks : Option (List Nat)) : Prop :=
  ∃ cap kv, W.heap[n.b]? = some (.cells #[.int .u64 n.gen, .int .i64 sz, .int .i64 by_, .slice (some ⟨n.eb, 0, none⟩) n.es.length cap, kv] 92 (0, 0)) ∧
    W.ownsRow 0 30 2 (.slice (some ⟨n.eb, 0, none⟩) n.es.length cap) n.es.length (n.es.flatMap eCells) ∧ KidsAt W n.kb ks kv

/-- owned nodes lie from N on, foreign ones below -/
def Nd.lies (g N : Nat) (kid : Bool) (n : Nd) : Prop := if n.gen = g then N ≤ n.b ∧ N ≤ n.eb ∧ (kid = true → N ≤ n.kb) else n.b < N ∧ n.eb < N ∧ (kid = true → n.kb < N)

/-- THE TREE AS IT LIES. -/
def Tree (g N : Nat) (W : World) : {h : Nat} → GT h → Prop
  | 0, n => NodeAt W n n.es.length (wr (bytes n.es)) none ∧ n.lies g N false
  | _ + 1, t => NodeAt W t.1 (weave (t.2.map GT.flat) t.1.es).length (wr (bytes (weave (t.2.map GT.flat) t.1.es))) (some (t.2.map fun k => k.nd.b)) ∧
    t.2.length = t.1.es.length + 1 ∧ t.1.lies g N true ∧ (t.1.gen ≠ g → t.2.flatMap (GT.fp g) = []) ∧ ∀ k, k ∈ t.2 → Tree g N W k

theorem row_fr {S : Nat → Prop} {W W' : World} {base e sz n b cap len : Nat} {xs : List Value} (h : W.ownsRow base e sz (.slice (some ⟨b, 0, none⟩) len cap) n xs) (hF : Fr S W W') (h1 : ¬ S b) : W'.ownsRow base e sz (.slice (some ⟨b, 0, none⟩) len cap) n xs := by
  refine ⟨h.1, ?_⟩
  rcases h.2 with ⟨h', _⟩ | ⟨gg, cap', cur, e', hb, hg, hn⟩
  · cases h'
  · refine .inr ⟨gg, cap', cur, e', hb, (hF.block _ (Array.getElem?_eq_some_iff.1 hg).1 ?_).trans hg, hn⟩
    simp at e'
    rw [← e'.1]; exact h1

theorem KidsAt.fr {S : Nat → Prop} {W W' : World} {kb : Nat} {ks : Option (List Nat)} {kv : Value} (h : KidsAt W kb ks kv) (hF : Fr S W W') (h1 : ks.isSome = true → ¬ S kb) : KidsAt W' kb ks kv := by
  cases ks with
  | none => exact h
  | some l =>
    obtain ⟨cap, rfl, ho⟩ := h
    exact ⟨cap, rfl, row_fr ho hF (h1 rfl)⟩

theorem NodeAt.fr {S : Nat → Prop} {W W' : World} {n : Nd} {sz by_ : Int} {ks : Option (List Nat)} (h : NodeAt W n sz by_ ks) (hF : Fr S W W') (h1 : ¬ S n.b) (h2 : ¬ S n.eb) (h3 : ks.isSome = true → ¬ S n.kb) : NodeAt W' n sz by_ ks := by
  obtain ⟨cap, kv, hc, ho, hk⟩ := h
  exact ⟨cap, kv, (hF.block _ (Array.getElem?_eq_some_iff.1 hc).1 h1).trans hc, row_fr ho hF h2, hk.fr hF h3⟩

theorem lies_not {g N : Nat} {S : Nat → Prop} {n : Nd} {kid : Bool} (hN : ∀ i, i < N → ¬ S i) (hl : n.lies g N kid) (hs : ∀ x, x ∈ n.own g kid → ¬ S x) : ¬ S n.b ∧ ¬ S n.eb ∧ (kid = true → ¬ S n.kb) := by
  unfold Nd.lies at hl
  by_cases e : n.gen = g
  · exact ⟨hs _ (by simp [Nd.own, e]), hs _ (by simp [Nd.own, e]), fun h => hs _ (by simp [Nd.own, e, h])⟩
  · rw [if_neg e] at hl; exact ⟨hN _ hl.1, hN _ hl.2.1, fun h => hN _ (hl.2.2 h)⟩

/-- A tree stands where none of its own blocks, and none below N, has turned. -/
theorem Tree.fr {g N : Nat} {S : Nat → Prop} {W W' : World} (hF : Fr S W W') (hN : ∀ i, i < N → ¬ S i) : {h : Nat} → {t : GT h} → Tree g N W t → (∀ x, x ∈ t.fp g → ¬ S x) → Tree g N W' t
  | 0, n, ht, hs => by
    obtain ⟨a, b, _⟩ := lies_not hN ht.2 hs
    exact ⟨ht.1.fr hF a b (fun h => by cases h), ht.2⟩
  | h + 1, t, ht, hs => by
    obtain ⟨hn, hl, hli, hf, hkids⟩ := ht
    obtain ⟨a, b, c⟩ := lies_not hN hli (fun x hx => hs x (by simp only [GT.fp, List.mem_append]; exact .inl hx))
    exact ⟨hn.fr hF a b (fun _ => c rfl), hl, hli, hf, fun k hk => Tree.fr hF hN (hkids k hk) (fun x hx => hs x (by
      simp only [GT.fp, List.mem_append, List.mem_flatMap]
      exact .inr ⟨k, hk, hx⟩))⟩

theorem own_lt {g N : Nat} {W : World} {n : Nd} {sz by_ : Int} {ks : Option (List Nat)} (h : NodeAt W n sz by_ ks) (hl : n.lies g N ks.isSome) : ∀ x, x ∈ n.own g ks.isSome → N ≤ x ∧ x < W.heap.size := by
  intro x hx
  obtain ⟨cap, kv, hc, ho, hk⟩ := h
  unfold Nd.own at hx
  unfold Nd.lies at hl
  by_cases e : n.gen = g
  · rw [if_pos e] at hx hl
    have h1 := (Array.getElem?_eq_some_iff.1 hc).1
    have h2 := (ho.lt n.eb rfl).2
    cases ks with
    | none =>
      simp at hx
      rcases hx with rfl | rfl
      · exact ⟨hl.1, h1⟩
      · exact ⟨hl.2.1, h2⟩
    | some l =>
      obtain ⟨cap', rfl, hr⟩ := hk
      have h3 := (hr.lt n.kb rfl).2
      simp at hx
      rcases hx with rfl | rfl | rfl
      · exact ⟨hl.1, h1⟩
      · exact ⟨hl.2.1, h2⟩
      · exact ⟨hl.2.2 rfl, h3⟩
  · rw [if_neg e] at hx; cases hx

/-- a tree's own blocks lie from N on, and are there -/
theorem Tree.fp_lt {g N : Nat} {W : World} : {h : Nat} → {t : GT h} → Tree g N W t → ∀ x, x ∈ t.fp g → N ≤ x ∧ x < W.heap.size
  | 0, n, ht, x, hx => own_lt ht.1 ht.2 x hx
  | h + 1, t, ht, x, hx => by
    simp only [GT.fp, List.mem_append, List.mem_flatMap] at hx
    rcases hx with hx | ⟨k, hk, hx⟩
    · exact own_lt ht.1 ht.2.2.1 x hx
    · exact Tree.fp_lt (ht.2.2.2.2 k hk) x hx
end Go.Proofs.Ybulkbrzk.BT
