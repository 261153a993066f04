/-
  A frame: which blocks may have turned. And the keys of the seat's maps (a struct of two strings).
-/
import Derived.Test.YbulkbseuGreatRows
import Derived.Test.YbulkbseuGreatMaps
import Derived.Deep.Draws
namespace Go.Proofs.YbulkbseuGreat.AM
open Go Go.MapKept

/-- All blocks of w but those of S are as they were; nothing else of the world has turned but draws; there may be new blocks. -/
structure Fr (S : Nat → Prop) (w w' : World) : Prop where
  os : w'.os = w.os
  tape : w'.tape = w.tape
  output : w'.output = w.output
  size : w.heap.size ≤ w'.heap.size
  block : ∀ i, i < w.heap.size → ¬ S i → w'.heap[i]? = w.heap[i]?

theorem Fr.refl (S : Nat → Prop) (w : World) : Fr S w w := ⟨rfl, rfl, rfl, Nat.le_refl _, fun _ _ _ => rfl⟩
theorem Fr.trans {S S' : Nat → Prop} {a b c : World} (h : Fr S a b) (k : Fr S' b c) (hs : ∀ i, i < a.heap.size → S' i → S i) : Fr S a c :=
  ⟨k.os.trans h.os, k.tape.trans h.tape, k.output.trans h.output, Nat.le_trans h.size k.size, fun i hi hn => (k.block i (Nat.lt_of_lt_of_le hi h.size) fun x => hn (hs i hi x)).trans (h.block i hi hn)⟩
theorem Fr.mono {S S' : Nat → Prop} {a b : World} (h : Fr S a b) (hs : ∀ i, i < a.heap.size → S i → S' i) : Fr S' a b := ⟨h.os, h.tape, h.output, h.size, fun i hi hn => h.block i hi fun x => hn (hs i hi x)⟩
theorem Fr.alloc {S : Nat → Prop} {a w : World} (h : Fr S a w) (o : Obj) : Fr S a (w.alloc o) :=
  ⟨h.os, h.tape, h.output, by simp only [World.size_alloc]; exact Nat.le_succ_of_le h.size, fun i hi hn => (RowKit.Below.heap_alloc w o i (Nat.lt_of_lt_of_le hi h.size)).trans (h.block i hi hn)⟩
theorem Fr.setCell {S : Nat → Prop} {a w : World} (h : Fr S a w) {p : Addr} (hp : S p.block ∨ a.heap.size ≤ p.block) (u : Value) : Fr S a (w.setCell p u) :=
  ⟨h.os, h.tape, h.output, by simpa using h.size, fun i hi hn => (RowKit.Below.heap_setCell w p u i (by rintro rfl; rcases hp with hp | hp; exact hn hp; omega)).trans (h.block i hi hn)⟩
theorem Fr.drewN {S : Nat → Prop} {a w : World} (h : Fr S a w) (n : Nat) : Fr S a (w.drewN n) := ⟨h.os, h.tape, h.output, h.size, h.block⟩
theorem Fr.drew {S : Nat → Prop} {a w : World} (h : Fr S a w) : Fr S a w.drew := ⟨h.os, h.tape, h.output, h.size, h.block⟩
theorem Fr.turn {S : Nat → Prop} {a w w' : World} {b : Nat} (h : Fr S a w) (t : Turn w w' b) (hb : S b ∨ a.heap.size ≤ b) : Fr S a w' :=
  ⟨t.os.trans h.os, t.tape.trans h.tape, t.output.trans h.output, by rw [t.size]; exact h.size, fun i hi hn => (t.other i (by rintro rfl; rcases hb with hb | hb; exact hn hb; omega)).trans (h.block i hi hn)⟩
theorem Fr.cell {S : Nat → Prop} {w w' : World} (h : Fr S w w') {p : Addr} (hp : p.block < w.heap.size) (hn : ¬ S p.block) : w'.cell? p = w.cell? p := World.cell?_of_block (w := w) (h.block p.block hp hn)
theorem Fr.frozen {S : Nat → Prop} {w w' : World} (h : Fr S w w') {p : Addr} (hp : p.block < w.heap.size) (hn : ¬ S p.block) : w'.frozen? p = w.frozen? p := World.frozen?_of_block (w := w) (h.block p.block hp hn)
theorem Fr.below {S : Nat → Prop} {w w' : World} (h : Fr S w w') (hs : ∀ i, i < w.heap.size → ¬ S i) : RowKit.Below w.heap.size w w' :=
  ⟨h.os, h.tape, h.output, h.size, fun k hk => h.block k hk (hs k hk)⟩

theorem bytes_eq (a b : ByteArray) : (a.toList == b.toList) = decide (a = b) := by
  rw [ByteArray.toList_eq, ByteArray.toList_eq]
  obtain ⟨⟨x⟩⟩ := a
  obtain ⟨⟨y⟩⟩ := b
  by_cases h : x = y
  · subst h; simp
  · simp [h]
theorem bytes_inj (a b : ByteArray) : a.toList = b.toList ↔ a = b := by
  constructor
  · intro h
    have := bytes_eq a b
    rw [h] at this
    simpa using this
  · intro h; rw [h]
theorem bytes_beq (a b : ByteArray) : (a == b) = decide (a = b) := by rw [beq_toListBytes, bytes_eq]

/-- a trust's name as a key -/
def enc (k : ByteArray × ByteArray) : Value := .agg #[.string k.1, .string k.2]

theorem eq52 (k k' : ByteArray × ByteArray) (w : World) : (Op.equal 52 (enc k) (enc k')).run Ybaz.prog w = .ok (decide (k = k')) w := by
  have u9 := Ybaz.underlying9
  have hS : Ybaz.prog.underlying 52 = some (.struct (Ybaz.prog.fieldsOf 52)) := by kernel_rfl
  have hp : Ybaz.prog.stoodInHeld 52 = false := by kernel_rfl
  unfold Op.equal Op.maxDepth enc
  rw [show (10000 : Nat) = 9999 + 1 from rfl, run_equalIn_agg w 9999 52 _ _ hS hp]
  simp only [Program.fieldsOf, Ybaz.underlying52]
  go_simp
  obtain ⟨a, b⟩ := k
  obtain ⟨c, d⟩ := k'
  by_cases h1 : a = c <;> by_cases h2 : b = d <;> simp [h1, h2, bytes_inj]

theorem keys52 : KeyEnc Ybaz.prog 52 enc where
  now := ⟨_, Ybaz.underlying52, fun k k' => .inl rfl⟩
  check := fun e k w => by
    unfold enc
    kernel_rfl
  eq := eq52
  bits := fun k => by
    unfold enc
    simp [Instr.sameBits, bytes_beq]
end Go.Proofs.YbulkbseuGreat.AM
