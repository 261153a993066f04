/-
  A frame: which blocks may have turned.
-/
import Derived.Test.YbulkbrzkRows
import Derived.WalkKit
import Derived.ProofKit
import Derived.Deep.Draws
import Derived.Laws.AppendOwn
namespace Go.Proofs.Ybulkbrzk.BT
open Go

/-- All blocks of w but those of S are as they were; nothing else of the world has turned but draws; there may be new blocks. -/
structure Fr (S : Nat → Prop) (w w' : World) : Prop where
  os : w'.os = w.os
  tape : w'.tape = w.tape
  output : w'.output = w.output
  size : w.heap.size ≤ w'.heap.size
  block : ∀ i, i < w.heap.size → ¬ S i → w'.heap[i]? = w.heap[i]?

theorem Fr.refl (S : Nat → Prop) (w : World) : Fr S w w := ⟨rfl, rfl, rfl, Nat.le_refl _, fun _ _ _ => rfl⟩
theorem Fr.trans {S S' : Nat → Prop} {a b c : World} (h : Fr S a b) (k : Fr S' b c) (hs : ∀ i, i < a.heap.size → S' i → S i) : Fr S a c :=
  ⟨k.os.trans h.os, k.tape.trans h.tape, k.output.trans h.output, Nat.le_trans h.size k.size, fun i hi hn => (k.block i (Nat.lt_of_lt_of_le hi h.size) fun x => hn (hs i hi x)).trans (h.block i hi hn)⟩
theorem Fr.mono {S S' : Nat → Prop} {a b : World} (h : Fr S a b) (hs : ∀ i, i < a.heap.size → S i → S' i) : Fr S' a b := ⟨h.os, h.tape, h.output, h.size, fun i hi hn => h.block i hi fun x => hn (hs i hi x)⟩
theorem Fr.alloc {S : Nat → Prop} {a w : World} (h : Fr S a w) (o : Obj) : Fr S a (w.alloc o) :=
  ⟨h.os, h.tape, h.output, by simp only [World.size_alloc]; exact Nat.le_succ_of_le h.size, fun i hi hn => (RowKit.Below.heap_alloc w o i (Nat.lt_of_lt_of_le hi h.size)).trans (h.block i hi hn)⟩
theorem Fr.setCell {S : Nat → Prop} {a w : World} (h : Fr S a w) {p : Addr} (hp : S p.block ∨ a.heap.size ≤ p.block) (u : Value) : Fr S a (w.setCell p u) :=
  ⟨h.os, h.tape, h.output, by simpa using h.size, fun i hi hn => (RowKit.Below.heap_setCell w p u i (by rintro rfl; rcases hp with hp | hp; exact hn hp; omega)).trans (h.block i hi hn)⟩
theorem Fr.drewN {S : Nat → Prop} {a w : World} (h : Fr S a w) (n : Nat) : Fr S a (w.drewN n) := ⟨h.os, h.tape, h.output, h.size, h.block⟩
theorem Fr.drew {S : Nat → Prop} {a w : World} (h : Fr S a w) : Fr S a w.drew := ⟨h.os, h.tape, h.output, h.size, h.block⟩
theorem Fr.cell {S : Nat → Prop} {w w' : World} (h : Fr S w w') {p : Addr} (hp : p.block < w.heap.size) (hn : ¬ S p.block) : w'.cell? p = w.cell? p := World.cell?_of_block (w := w) (h.block p.block hp hn)
theorem Fr.frozen {S : Nat → Prop} {w w' : World} (h : Fr S w w') {p : Addr} (hp : p.block < w.heap.size) (hn : ¬ S p.block) : w'.frozen? p = w.frozen? p := World.frozen?_of_block (w := w) (h.block p.block hp hn)
theorem Fr.below {S : Nat → Prop} {w w' : World} (h : Fr S w w') (hs : ∀ i, i < w.heap.size → ¬ S i) : RowKit.Below w.heap.size w w' :=
  ⟨h.os, h.tape, h.output, h.size, fun k hk => h.block k hk (hs k hk)⟩

theorem Fr.grown {S : Nat → Prop} {a w w' : World} {row : Option Nat} (h : Fr S a w) (g : w.grownBy w' row) (hr : ∀ r, row = some r → S r ∨ a.heap.size ≤ r) : Fr S a w' :=
  ⟨g.os.trans h.os, g.tape.trans h.tape, g.output.trans h.output, Nat.le_trans h.size g.size, fun i hi hn => (g.block i (Nat.lt_of_lt_of_le hi h.size) (fun e => by rcases hr i e.symm with x | x; exact hn x; omega)).trans (h.block i hi hn)⟩

end Go.Proofs.Ybulkbrzk.BT
