import Derived.Test.YbulkbseuGreatAdd
namespace Go.Proofs.YbulkbseuGreat.AM
open Go Go.MapKept Go.RowKit Go.MuLone
set_option linter.unusedVariables false

/-- The map that the field holds: nil, or a block with these pairs. -/
def Held (w : World) (m : Option Nat) (L : List ((ByteArray × ByteArray) × Value)) : Prop := (m = none ∧ L = []) ∨ ∃ mb, m = some mb ∧ MapAt enc w mb L

def grow (L : List ((ByteArray × ByteArray) × Value)) (k : ByteArray × ByteArray) (n : Int) : List ((ByteArray × ByteArray) × Value) := if (get L k).isSome then L else put L k (.int .u64 n)
def next (L : List ((ByteArray × ByteArray) × Value)) (k : ByteArray × ByteArray) (n : Int) : Int := if (get L k).isSome then n else IntKind.u64.wrap (n + 1)

/-- What 'add' and 'unknownKey' leave, whatever map there was. -/
structure Wanted (w w' : World) (zb : Nat) (m : Option Nat) (L : List ((ByteArray × ByteArray) × Value)) (n : Int) : Prop where
  held : ∃ mb, w'.cell? ⟨zb, 15, none⟩ = some (.map (some mb)) ∧ MapAt enc w' mb L
  c3 : w'.cell? ⟨zb, 16, none⟩ = some (.int .u64 n)
  fr : Fr (fun i => i = zb ∨ some i = m) w w'

theorem Added.wanted {w w' : World} {zb mb : Nat} {m : Option Nat} {L : List ((ByteArray × ByteArray) × Value)} {n : Int} (h : Added w w' zb mb L n) (hm : m = some mb ∨ w.heap.size ≤ mb) : Wanted w w' zb m L n :=
  ⟨⟨mb, h.c2, h.mp⟩, h.c3, h.fr.mono fun i hi => fun
    | .inl h => .inl h
    | .inr h => by
      rcases hm with rfl | hm
      · exact .inr (by rw [h])
      · omega⟩

theorem add_all (zb nb : Nat) (m : Option Nat) (n : Int) (r nm : ByteArray) (L : List ((ByteArray × ByteArray) × Value)) (w : World)
    (c0 : w.cell? ⟨zb, 13, none⟩ = some (.int .i32 0)) (f0 : w.frozen? ⟨zb, 13, none⟩ = false) (f3 : w.frozen? ⟨zb, 16, none⟩ = false) (f2 : w.frozen? ⟨zb, 15, none⟩ = false)
    (c2 : w.cell? ⟨zb, 15, none⟩ = some (.map m)) (c3 : w.cell? ⟨zb, 16, none⟩ = some (.int .u64 n))
    (k0 : w.cell? ⟨nb, 0, none⟩ = some (.string r)) (k1 : w.cell? ⟨nb, 1, none⟩ = some (.string nm)) (hnz : nb ≠ zb) (hm : Held w m L) :
    Calls Ybaz.prog 8 #[.pointer (some ⟨zb, 13, none⟩), .slice (some ⟨nb, 0, none⟩) 1 1] w fun e w' => e = .returned (.tuple #[]) ∧ Wanted w w' zb m (grow L (r, nm) n) (next L (r, nm) n) := by
  rcases hm with ⟨rfl, rfl⟩ | ⟨mb, rfl, hm⟩
  · exact (add_nil zb nb n r nm w c0 f0 f3 f2 c2 c3 k0 k1 hnz).mono fun e w' ⟨he, ha⟩ => ⟨he, ha.wanted (.inr (Nat.le_refl _))⟩
  · cases hg : get L (r, nm) with
    | none =>
      have e1 : grow L (r, nm) n = put L (r, nm) (.int .u64 n) := by simp [grow, hg]
      have e2 : next L (r, nm) n = IntKind.u64.wrap (n + 1) := by simp [next, hg]
      rw [e1, e2]
      exact (add_new zb nb mb n r nm L w c0 f0 f3 c2 c3 k0 k1 hnz hm hg).mono fun e w' ⟨he, ha⟩ => ⟨he, ha.wanted (.inl rfl)⟩
    | some u =>
      have e1 : grow L (r, nm) n = L := by simp [grow, hg]
      have e2 : next L (r, nm) n = n := by simp [next, hg]
      rw [e1, e2]
      exact (add_has zb nb mb n r nm L u w c0 f0 c2 c3 k0 k1 hnz hm hg).mono fun e w' ⟨he, ha⟩ => ⟨he, ha.wanted (.inl rfl)⟩

theorem unknown_zone (sb zb ob : Nat) (m : Option Nat) (n : Int) (r nm : ByteArray) (L : List ((ByteArray × ByteArray) × Value)) (w : World)
    (hz : w.cell? ⟨sb, 21, none⟩ = some (.pointer (some ⟨zb, 0, none⟩))) (o0 : w.cell? ⟨ob, 0, none⟩ = some (.string nm)) (o1 : w.cell? ⟨ob, 1, none⟩ = some (.string r))
    (c0 : w.cell? ⟨zb, 13, none⟩ = some (.int .i32 0)) (f0 : w.frozen? ⟨zb, 13, none⟩ = false) (f3 : w.frozen? ⟨zb, 16, none⟩ = false) (f2 : w.frozen? ⟨zb, 15, none⟩ = false)
    (c2 : w.cell? ⟨zb, 15, none⟩ = some (.map m)) (c3 : w.cell? ⟨zb, 16, none⟩ = some (.int .u64 n)) (hm : Held w m L) :
    Calls Ybaz.prog 5 #[.pointer (some ⟨sb, 0, none⟩), .pointer (some ⟨ob, 0, none⟩)] w fun e w' => e = .returned (.tuple #[]) ∧ Wanted w w' zb m (grow L (r, nm) n) (next L (r, nm) n) := by
  have hob : ob < w.heap.size := World.block_lt_of_cell? _ _ o0
  have hsb : sb < w.heap.size := World.block_lt_of_cell? _ _ hz
  have hzb : zb < w.heap.size := World.block_lt_of_cell? _ _ c0
  go_enter Ybaz.func5, Ybaz.ntmps5
  go_wp2_with fail
  go_region
  go_wp2_with fail
  obtain ⟨W1, hW1⟩ : ∃ W1, W1 = (w.alloc (.cells #[.string r, .string nm] 52)).drew := ⟨_, rfl⟩
  rw [← hW1]
  have hF1 : Fr (fun i => i = zb ∨ some i = m) w W1 := by rw [hW1]; exact ((Fr.refl _ _).alloc _).drew
  have z1 : W1.heap.size = w.heap.size + 1 := by rw [hW1]; simp
  have cl : ∀ (b o : Nat), b < w.heap.size → W1.cell? ⟨b, o, none⟩ = w.cell? ⟨b, o, none⟩ := fun b o hb => by
    rw [hW1]; exact World.cell?_alloc_lt _ _ _ hb
  have ka : W1.cell? ⟨w.heap.size, 0, none⟩ = some (.string r) := by rw [hW1]; exact World.cell?_alloc_new _ _ _ _
  have kb : W1.cell? ⟨w.heap.size, 1, none⟩ = some (.string nm) := by rw [hW1]; exact World.cell?_alloc_new _ _ _ _
  have hz1 := (cl sb 21 hsb).trans hz
  obtain ⟨W2, hW2⟩ : ∃ W2, W2 = (W1.alloc (.cells #[.string r, .string nm] 52)).drew := ⟨_, rfl⟩
  have c2' : ∀ (b o : Nat), b < W1.heap.size → W2.cell? ⟨b, o, none⟩ = W1.cell? ⟨b, o, none⟩ := fun b o hb => by
    rw [hW2]; exact World.cell?_alloc_lt _ _ _ hb
  have f1' : ∀ (o : Nat), W2.frozen? ⟨zb, o, none⟩ = w.frozen? ⟨zb, o, none⟩ := fun o => by
    rw [hW2, hW1]
    exact (World.frozen?_of_block (w := (w.alloc (.cells #[.string r, .string nm] 52)).drew) (Below.heap_alloc _ _ _ (by simp; omega))).trans (World.frozen?_of_block (w := w) (Below.heap_alloc _ _ _ hzb))
  have hF2 : Fr (fun i => i = zb ∨ some i = m) w W2 := by rw [hW2]; exact (hF1.alloc _).drew
  have hm2 : Held W2 m L := by
    rcases hm with h | ⟨mb, e, h⟩
    · exact .inl h
    · refine .inr ⟨mb, e, ?_⟩
      have hlt := h.lt
      rw [hW2, hW1]
      exact h.of_heap ((Below.heap_alloc _ _ _ (by simp; omega)).trans (Below.heap_alloc _ _ _ hlt))
  have hadd := add_all zb W1.heap.size m n r nm L W2 ((c2' zb 13 (by omega)).trans ((cl zb 13 hzb).trans c0)) ((f1' 13).trans f0) ((f1' 16).trans f3) ((f1' 15).trans f2)
    ((c2' zb 15 (by omega)).trans ((cl zb 15 hzb).trans c2)) ((c2' zb 16 (by omega)).trans ((cl zb 16 hzb).trans c3))
    (by rw [hW2]; exact World.cell?_alloc_new _ _ _ _) (by rw [hW2]; exact World.cell?_alloc_new _ _ _ _) (by omega) hm2
  rw [hW2] at hadd
  have Hadd := Lib.hid hadd
  have HW2 := Lib.hid hW2
  have hsb1 : sb < W1.heap.size := by omega
  have hzb1 : zb < W1.heap.size := by omega
  have hw1 : w.heap.size < W1.heap.size := by omega
  clear hadd hW2 hW1 hm2 hm cl c2' f1' z1
  go_region_with (go_at_call 8; refine (Hadd.out).mono ?_; rintro e w' ⟨rfl, hw⟩)
  all_goals (go_wp2_with fail)
  all_goals
    refine bodyPost_ret (results_none rfl _ _ _) rfl ⟨rfl, ?_⟩
    rw [← HW2.out] at hw
    exact ⟨hw.held, hw.c3, hF2.trans hw.fr (fun _ _ h => h)⟩
end Go.Proofs.YbulkbseuGreat.AM
