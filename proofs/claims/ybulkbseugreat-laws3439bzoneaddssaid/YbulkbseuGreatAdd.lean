import Derived.Test.YbulkbseuGreatFr
import Derived.Test.YbulkbseuGreatLocks
import Derived.Conc.MuLone
import Derived.WalkKit
import Derived.WalkSpells
import Derived.WalkLawsBesides
import Derived.Deep.QuietTactic
import Derived.BigQuiet
import Derived.Deep.RegionWith
import Derived.Deep.RegionLaw
import Derived.Lib.Hide
namespace Go.Proofs.YbulkbseuGreat.AM
open Go Go.MapKept Go.RowKit Go.MuLone
set_option linter.unusedVariables false

theorem z23 (w : World) : (zeroValue 23).run Ybaz.prog w = .ok (.int .u64 0) w := Ybaz.zeroValue23 w

/-- What 'add' leaves: the lock free, the map in its field, the place of the one to come. -/
structure Added (w w' : World) (zb mb : Nat) (L : List ((ByteArray × ByteArray) × Value)) (n : Int) : Prop where
  c0 : w'.cell? ⟨zb, 13, none⟩ = some (.int .i32 0)
  c2 : w'.cell? ⟨zb, 15, none⟩ = some (.map (some mb))
  c3 : w'.cell? ⟨zb, 16, none⟩ = some (.int .u64 n)
  mp : MapAt enc w' mb L
  fr : Fr (fun i => i = zb ∨ i = mb) w w'

/-- The world behind the lock and the boxed name: what the rest of 'add' reads. -/
theorem at_name {w : World} {zb : Nat} {r nm : ByteArray} {v0 v2 v3 : Value} (c0 : w.cell? ⟨zb, 13, none⟩ = some v0) (c2 : w.cell? ⟨zb, 15, none⟩ = some v2) (c3 : w.cell? ⟨zb, 16, none⟩ = some v3)
    {W1 : World} (hW : W1 = (w.setCell ⟨zb, 13, none⟩ (.int .i32 1)).alloc (.cells #[.string r, .string nm] 52)) :
    W1.cell? ⟨zb, 13, none⟩ = some (.int .i32 1) ∧ W1.cell? ⟨zb, 15, none⟩ = some v2 ∧ W1.cell? ⟨zb, 16, none⟩ = some v3 ∧ W1.cell? ⟨w.heap.size, 0, none⟩ = some (.string r) ∧ W1.cell? ⟨w.heap.size, 1, none⟩ = some (.string nm) := by
  have hz := World.block_lt_of_cell? _ _ c0
  subst hW
  refine ⟨?_, ?_, ?_, ?_, ?_⟩
  · rw [World.cell?_alloc_lt _ _ _ (by simpa using hz)]; exact World.cell?_setCell_same _ _ _ c0
  · rw [World.cell?_alloc_lt _ _ _ (by simpa using hz)]; exact (World.cell?_setCell_other _ _ _ _ (by simp)).trans c2
  · rw [World.cell?_alloc_lt _ _ _ (by simpa using hz)]; exact (World.cell?_setCell_other _ _ _ _ (by simp)).trans c3
  · have := World.cell?_alloc_new (w.setCell ⟨zb, 13, none⟩ (.int .i32 1)) #[.string r, .string nm] 52 0
    rw [World.size_setCell] at this
    exact this
  · have := World.cell?_alloc_new (w.setCell ⟨zb, 13, none⟩ (.int .i32 1)) #[.string r, .string nm] 52 1
    rw [World.size_setCell] at this
    exact this

/-- The unlock, behind whatever the body has left. -/
theorem added_unlock (zb mb : Nat) (L : List ((ByteArray × ByteArray) × Value)) (n : Int) (w W : World) (q : Nat) (p0 : W.cell? ⟨zb, 13, none⟩ = some (.int .i32 1)) (p2 : W.cell? ⟨zb, 15, none⟩ = some (.map (some mb)))
    (p3 : W.cell? ⟨zb, 16, none⟩ = some (.int .u64 n)) (hm : MapAt enc W mb L) (hF : Fr (fun i => i = zb ∨ i = mb) w W) (hzm : zb ≠ mb) :
    Added w ((W.drewN q).setCell ⟨zb, 13, none⟩ (.int .i32 0)) zb mb L n where
  c0 := World.cell?_setCell_same _ _ _ p0
  c2 := (World.cell?_setCell_other _ _ _ _ (by simp)).trans p2
  c3 := (World.cell?_setCell_other _ _ _ _ (by simp)).trans p3
  mp := hm.of_heap ((Below.heap_setCell _ _ _ _ (fun e => hzm e.symm)).trans rfl)
  fr := (hF.drewN q).setCell (.inl (.inl rfl)) _

theorem add_has (zb nb mb : Nat) (n : Int) (r nm : ByteArray) (L : List ((ByteArray × ByteArray) × Value)) (u : Value) (w : World)
    (c0 : w.cell? ⟨zb, 13, none⟩ = some (.int .i32 0)) (f0 : w.frozen? ⟨zb, 13, none⟩ = false)
    (c2 : w.cell? ⟨zb, 15, none⟩ = some (.map (some mb))) (c3 : w.cell? ⟨zb, 16, none⟩ = some (.int .u64 n))
    (k0 : w.cell? ⟨nb, 0, none⟩ = some (.string r)) (k1 : w.cell? ⟨nb, 1, none⟩ = some (.string nm)) (hnz : nb ≠ zb)
    (hm : MapAt enc w mb L) (hg : get L (r, nm) = some u) :
    Calls Ybaz.prog 8 #[.pointer (some ⟨zb, 13, none⟩), .slice (some ⟨nb, 0, none⟩) 1 1] w fun e w' => e = .returned (.tuple #[]) ∧ Added w w' zb mb L n := by
  have hzm : zb ≠ mb := fun e => hm.cell 13 _ (by rw [← e]; exact c0)
  have q2 : (w.setCell ⟨zb, 13, none⟩ (.int .i32 1)).cell? ⟨zb, 15, none⟩ = some (.map (some mb)) := (World.cell?_setCell_other _ ⟨zb, 13, none⟩ ⟨zb, 15, none⟩ _ (by simp)).trans c2
  have hnil : ∀ w, (binOp .eql 45 (.map (some mb)) (.map none)).run Ybaz.prog w = .ok (.bool false) w := fun w => run_eql_map_nil w 45 52 23 (some mb) Ybaz.underlying45
  obtain ⟨W1, hW1⟩ : ∃ W1, W1 = (w.setCell ⟨zb, 13, none⟩ (.int .i32 1)).alloc (.cells #[.string r, .string nm] 52) := ⟨_, rfl⟩
  have hm1 : MapAt enc W1 mb L := by
    rw [hW1]
    exact hm.of_heap ((Below.heap_alloc _ _ _ (by simpa using hm.lt)).trans (Below.heap_setCell _ _ _ _ (fun e => hzm e.symm)))
  have hF : Fr (fun i => i = zb ∨ i = mb) w W1 := by
    rw [hW1]; exact ((Fr.refl _ _).setCell (.inl (.inl rfl)) _).alloc _
  have hfz : W1.frozen? ⟨zb, 13, none⟩ = false := by
    rw [hW1, World.frozen?_of_block (w := w.setCell ⟨zb, 13, none⟩ (.int .i32 1)) (Below.heap_alloc _ _ _ (by simpa using World.block_lt_of_cell? _ _ c0))]; simp [f0]
  obtain ⟨p0, p2, p3, pa, pb⟩ := at_name c0 c2 c3 hW1
  have hlk : ∀ q, (Instr.lookup 45 (.map (some mb)) (.agg #[.string r, .string nm]) true).run Ybaz.prog (W1.drewN q) = .ok (.tuple #[u, .bool true]) (W1.drewN q) := fun q => by
    have := run_look keys52 Ybaz.underlying45 z23 (W1.drewN q) mb L (r, nm) (hm1.of_heap rfl) true
    rw [hg] at this
    exact this
  have Hm := Lib.hid hm1
  have Hg := Lib.hid (And.intro hm hg)
  have HW := Lib.hid hW1
  clear hm1 hm hg hW1
  go_enter_defers Ybaz.func8, Ybaz.ntmps8
  go_wp2_with (go_at_call 13; refine (lock_free muLib ⟨zb, 13, none⟩ _ c0 f0).mono ?_; rintro e w' ⟨rfl, rfl⟩)
  refine wp_loop_rounds 2 ?_
  rw [rounds_succ]
  go_wp2_with fail
  rw [← HW.out]
  go_quiet (fail)
  go_wp2_with fail
  rw [rounds_succ]
  go_wp2_with fail
  refine leaves_cons (f := 14) (args := #[.pointer (some ⟨zb, 13, none⟩)]) (by simp) (by simp [go_sem]) ?_
  refine (unlock_deferred muLib ⟨zb, 13, none⟩ .returning (W1.drewN nq) p0 hfz).mono ?_
  rintro e u' w'' ⟨rfl, rfl, rfl⟩
  refine ⟨_, results_none rfl _ _ _, rfl, ?_⟩
  exact added_unlock zb mb L n w W1 nq p0 p2 p3 Hm.out hF hzm

/-- Behind the store into the map and the counter's step. -/
theorem at_stored {w W1 W2 W3 : World} {zb mb : Nat} {n n' : Int} {v2 : Value} {L : List ((ByteArray × ByteArray) × Value)} (p0 : W1.cell? ⟨zb, 13, none⟩ = some (.int .i32 1)) (p2 : W1.cell? ⟨zb, 15, none⟩ = some v2)
    (p3 : W1.cell? ⟨zb, 16, none⟩ = some (.int .u64 n)) (f0 : W1.frozen? ⟨zb, 13, none⟩ = false) (hzm : zb ≠ mb) (hF : Fr (fun i => i = zb ∨ i = mb) w W1) {q : Nat} (hM : MapAt enc W3 mb L) (hT : Turn (W1.drewN q) W3 mb)
    (hW : W2 = W3.setCell ⟨zb, 16, none⟩ (.int .u64 n')) :
    W2.cell? ⟨zb, 13, none⟩ = some (.int .i32 1) ∧ W2.cell? ⟨zb, 15, none⟩ = some v2 ∧ W2.cell? ⟨zb, 16, none⟩ = some (.int .u64 n') ∧ MapAt enc W2 mb L ∧ Fr (fun i => i = zb ∨ i = mb) w W2 ∧ W2.frozen? ⟨zb, 13, none⟩ = false := by
  subst hW
  refine ⟨?_, ?_, ?_, ?_, ?_, ?_⟩
  · exact (World.cell?_setCell_other _ _ _ _ (by simp)).trans ((hT.cell _).trans p0)
  · exact (World.cell?_setCell_other _ _ _ _ (by simp)).trans ((hT.cell _).trans p2)
  · exact World.cell?_setCell_same _ _ _ ((hT.cell _).trans p3)
  · exact hM.of_heap (Below.heap_setCell _ _ _ _ (fun e => hzm e.symm))
  · exact ((hF.drewN q).turn hT (.inl (.inr rfl))).setCell (.inl (.inl rfl)) _
  · rw [World.frozen?_setCell]; exact (hT.frozen _).trans f0

theorem add_new (zb nb mb : Nat) (n : Int) (r nm : ByteArray) (L : List ((ByteArray × ByteArray) × Value)) (w : World)
    (c0 : w.cell? ⟨zb, 13, none⟩ = some (.int .i32 0)) (f0 : w.frozen? ⟨zb, 13, none⟩ = false) (f3 : w.frozen? ⟨zb, 16, none⟩ = false)
    (c2 : w.cell? ⟨zb, 15, none⟩ = some (.map (some mb))) (c3 : w.cell? ⟨zb, 16, none⟩ = some (.int .u64 n))
    (k0 : w.cell? ⟨nb, 0, none⟩ = some (.string r)) (k1 : w.cell? ⟨nb, 1, none⟩ = some (.string nm)) (hnz : nb ≠ zb)
    (hm : MapAt enc w mb L) (hg : get L (r, nm) = none) :
    Calls Ybaz.prog 8 #[.pointer (some ⟨zb, 13, none⟩), .slice (some ⟨nb, 0, none⟩) 1 1] w fun e w' => e = .returned (.tuple #[]) ∧ Added w w' zb mb (put L (r, nm) (.int .u64 n)) (IntKind.u64.wrap (n + 1)) := by
  have hzm : zb ≠ mb := fun e => hm.cell 13 _ (by rw [← e]; exact c0)
  have q2 : (w.setCell ⟨zb, 13, none⟩ (.int .i32 1)).cell? ⟨zb, 15, none⟩ = some (.map (some mb)) := (World.cell?_setCell_other _ ⟨zb, 13, none⟩ ⟨zb, 15, none⟩ _ (by simp)).trans c2
  have hnil : ∀ w, (binOp .eql 45 (.map (some mb)) (.map none)).run Ybaz.prog w = .ok (.bool false) w := fun w => run_eql_map_nil w 45 52 23 (some mb) Ybaz.underlying45
  obtain ⟨W1, hW1⟩ : ∃ W1, W1 = (w.setCell ⟨zb, 13, none⟩ (.int .i32 1)).alloc (.cells #[.string r, .string nm] 52) := ⟨_, rfl⟩
  have hm1 : MapAt enc W1 mb L := by
    rw [hW1]
    exact hm.of_heap ((Below.heap_alloc _ _ _ (by simpa using hm.lt)).trans (Below.heap_setCell _ _ _ _ (fun e => hzm e.symm)))
  have hF : Fr (fun i => i = zb ∨ i = mb) w W1 := by
    rw [hW1]; exact ((Fr.refl _ _).setCell (.inl (.inl rfl)) _).alloc _
  have hzl : zb < w.heap.size := World.block_lt_of_cell? _ _ c0
  have hfz : W1.frozen? ⟨zb, 13, none⟩ = false := by
    rw [hW1, World.frozen?_of_block (w := w.setCell ⟨zb, 13, none⟩ (.int .i32 1)) (Below.heap_alloc _ _ _ (by simpa using hzl))]; simp [f0]
  have hfz3 : W1.frozen? ⟨zb, 16, none⟩ = false := by
    rw [hW1, World.frozen?_of_block (w := w.setCell ⟨zb, 13, none⟩ (.int .i32 1)) (Below.heap_alloc _ _ _ (by simpa using hzl))]; simp [f3]
  obtain ⟨p0, p2, p3, pa, pb⟩ := at_name c0 c2 c3 hW1
  have hlk : ∀ q, (Instr.lookup 45 (.map (some mb)) (.agg #[.string r, .string nm]) true).run Ybaz.prog (W1.drewN q) = .ok (.tuple #[.int .u64 0, .bool false]) (W1.drewN q) := fun q => by
    have := run_look keys52 Ybaz.underlying45 z23 (W1.drewN q) mb L (r, nm) (hm1.of_heap rfl) true
    rw [hg] at this
    exact this
  obtain ⟨o, ho⟩ := run_store_all keys52 Ybaz.underlying45 W1 mb L (r, nm) (.int .u64 n) hm1
  have hst : ∀ q, (Instr.mapUpdate 45 (.map (some mb)) (.agg #[.string r, .string nm]) (.int .u64 n)).run Ybaz.prog (W1.drewN q) = .ok () (ChangeMaps.setBlock (W1.drewN q) mb o) := fun q => (ho (W1.drewN q) rfl).1
  have hcl : ∀ q a, (ChangeMaps.setBlock (W1.drewN q) mb o).cell? a = W1.cell? a := fun q a => (ho (W1.drewN q) rfl).2.2.cell a
  have hfr : ∀ q a, (ChangeMaps.setBlock (W1.drewN q) mb o).frozen? a = W1.frozen? a := fun q a => (ho (W1.drewN q) rfl).2.2.frozen a
  have Ho := Lib.hid ho
  have Hm := Lib.hid hm1
  have Hg := Lib.hid (And.intro hm hg)
  have HW := Lib.hid hW1
  clear hm1 hm hg hW1 ho
  go_enter_defers Ybaz.func8, Ybaz.ntmps8
  go_wp2_with (go_at_call 13; refine (lock_free muLib ⟨zb, 13, none⟩ _ c0 f0).mono ?_; rintro e w' ⟨rfl, rfl⟩)
  refine wp_loop_rounds 2 ?_
  rw [rounds_succ]
  go_wp2_with fail
  rw [← HW.out]
  go_quiet (fail)
  go_wp2_with fail
  go_region
  go_wp2_with fail
  obtain ⟨W2, hW2⟩ : ∃ W2, W2 = (ChangeMaps.setBlock (W1.drewN (nq + 1)) mb o).setCell ⟨zb, 16, none⟩ (.int .u64 (IntKind.u64.wrap (n + 1))) := ⟨_, rfl⟩
  rw [← hW2]
  obtain ⟨s1, s2, s3, s4, s5, s6⟩ := at_stored p0 p2 p3 hfz hzm hF (Ho.out (W1.drewN (nq + 1)) rfl).2.1 (Ho.out (W1.drewN (nq + 1)) rfl).2.2 hW2
  have HM := Lib.hid s4
  clear hW2 s4 hst hcl hfr hlk
  rw [rounds_succ]
  go_wp2_with fail
  refine leaves_cons (f := 14) (args := #[.pointer (some ⟨zb, 13, none⟩)]) (by simp) (by simp [go_sem]) ?_
  refine (unlock_deferred muLib ⟨zb, 13, none⟩ .returning W2 s1 s6).mono ?_
  rintro e u' w'' ⟨rfl, rfl, rfl⟩
  refine ⟨_, results_none rfl _ _ _, rfl, ?_⟩
  exact added_unlock zb mb _ _ w W2 0 s1 s2 s3 HM.out s5 hzm

theorem add_nil (zb nb : Nat) (n : Int) (r nm : ByteArray) (w : World)
    (c0 : w.cell? ⟨zb, 13, none⟩ = some (.int .i32 0)) (f0 : w.frozen? ⟨zb, 13, none⟩ = false) (f3 : w.frozen? ⟨zb, 16, none⟩ = false)
    (f2 : w.frozen? ⟨zb, 15, none⟩ = false) (c2 : w.cell? ⟨zb, 15, none⟩ = some (.map none)) (c3 : w.cell? ⟨zb, 16, none⟩ = some (.int .u64 n))
    (k0 : w.cell? ⟨nb, 0, none⟩ = some (.string r)) (k1 : w.cell? ⟨nb, 1, none⟩ = some (.string nm)) (hnz : nb ≠ zb) :
    Calls Ybaz.prog 8 #[.pointer (some ⟨zb, 13, none⟩), .slice (some ⟨nb, 0, none⟩) 1 1] w fun e w' => e = .returned (.tuple #[]) ∧ Added w w' zb w.heap.size [((r, nm), .int .u64 n)] (IntKind.u64.wrap (n + 1)) := by
  have hzl : zb < w.heap.size := World.block_lt_of_cell? _ _ c0
  have hnl : nb < w.heap.size := World.block_lt_of_cell? _ _ k0
  have hzm : zb ≠ w.heap.size := fun e => by rw [e] at hzl; exact Nat.lt_irrefl _ hzl
  have hnil : ∀ w, (binOp .eql 45 (.map none) (.map none)).run Ybaz.prog w = .ok (.bool true) w := fun w => run_eql_map_nil w 45 52 23 none Ybaz.underlying45
  have hmm := @run_makeMap Ybaz.prog
  have q2 : (w.setCell ⟨zb, 13, none⟩ (.int .i32 1)).cell? ⟨zb, 15, none⟩ = some (.map none) := (World.cell?_setCell_other _ ⟨zb, 13, none⟩ ⟨zb, 15, none⟩ _ (by simp)).trans c2
  obtain ⟨W0, hW0⟩ : ∃ W0, W0 = ((w.setCell ⟨zb, 13, none⟩ (.int .i32 1)).setCell ⟨zb, 15, none⟩ (.map (some w.heap.size))).alloc (.map #[] 0) := ⟨_, rfl⟩
  have z0 : W0.heap.size = w.heap.size + 1 := by rw [hW0]; simp
  have hF0 : Fr (fun i => i = zb ∨ i = w.heap.size) w W0 := by
    rw [hW0]; exact (((Fr.refl _ _).setCell (.inl (.inl rfl)) _).setCell (.inl (.inl rfl)) _).alloc _
  have hM0 : MapAt enc W0 w.heap.size ([] : List ((ByteArray × ByteArray) × Value)) := by
    have := MapAt.new (enc := enc) ((w.setCell ⟨zb, 13, none⟩ (.int .i32 1)).setCell ⟨zb, 15, none⟩ (.map (some w.heap.size)))
    rw [hW0]
    simpa using this
  have cl : ∀ (b o : Nat), b < w.heap.size → W0.cell? ⟨b, o, none⟩ = ((w.setCell ⟨zb, 13, none⟩ (.int .i32 1)).setCell ⟨zb, 15, none⟩ (.map (some w.heap.size))).cell? ⟨b, o, none⟩ := fun b o hb => by
    rw [hW0]; exact World.cell?_alloc_lt _ _ _ (by simpa using hb)
  have fl : ∀ (o : Nat), W0.frozen? ⟨zb, o, none⟩ = w.frozen? ⟨zb, o, none⟩ := fun o => by
    rw [hW0, World.frozen?_of_block (w := (w.setCell ⟨zb, 13, none⟩ (.int .i32 1)).setCell ⟨zb, 15, none⟩ (.map (some w.heap.size))) (Below.heap_alloc _ _ _ (by simpa using hzl))]
    rw [World.frozen?_setCell, World.frozen?_setCell]
  have r0 : W0.cell? ⟨zb, 13, none⟩ = some (.int .i32 1) := (cl zb 13 hzl).trans ((World.cell?_setCell_other _ _ _ _ (by simp)).trans (World.cell?_setCell_same _ _ _ c0))
  have r2 : W0.cell? ⟨zb, 15, none⟩ = some (.map (some w.heap.size)) := (cl zb 15 hzl).trans (World.cell?_setCell_same _ _ _ q2)
  have r3 : W0.cell? ⟨zb, 16, none⟩ = some (.int .u64 n) := (cl zb 16 hzl).trans ((World.cell?_setCell_other _ _ _ _ (by simp)).trans ((World.cell?_setCell_other _ _ _ _ (by simp)).trans c3))
  have ra : W0.cell? ⟨nb, 0, none⟩ = some (.string r) := (cl nb 0 hnl).trans ((World.cell?_setCell_other _ _ _ _ (by simp)).trans ((World.cell?_setCell_other _ _ _ _ (by simp)).trans k0))
  have rb : W0.cell? ⟨nb, 1, none⟩ = some (.string nm) := (cl nb 1 hnl).trans ((World.cell?_setCell_other _ _ _ _ (by simp)).trans ((World.cell?_setCell_other _ _ _ _ (by simp)).trans k1))
  have g0 := (fl 13).trans f0
  have g3 := (fl 16).trans f3
  obtain ⟨W1, hW1⟩ : ∃ W1, W1 = W0.alloc (.cells #[.string r, .string nm] 52) := ⟨_, rfl⟩
  have c1 : ∀ (b o : Nat), b < W0.heap.size → W1.cell? ⟨b, o, none⟩ = W0.cell? ⟨b, o, none⟩ := fun b o hb => by
    rw [hW1]; exact World.cell?_alloc_lt _ _ _ hb
  have hz0 : zb < W0.heap.size := by omega
  have p0 := (c1 zb 13 hz0).trans r0
  have p2 := (c1 zb 15 hz0).trans r2
  have p3 := (c1 zb 16 hz0).trans r3
  have pa : W1.cell? ⟨W0.heap.size, 0, none⟩ = some (.string r) := by rw [hW1]; exact World.cell?_alloc_new _ _ _ _
  have pb : W1.cell? ⟨W0.heap.size, 1, none⟩ = some (.string nm) := by rw [hW1]; exact World.cell?_alloc_new _ _ _ _
  have hm1 : MapAt enc W1 w.heap.size ([] : List ((ByteArray × ByteArray) × Value)) := by
    rw [hW1]; exact hM0.of_heap (Below.heap_alloc _ _ _ (by omega))
  have hF : Fr (fun i => i = zb ∨ i = w.heap.size) w W1 := by rw [hW1]; exact hF0.alloc _
  have hfz : W1.frozen? ⟨zb, 13, none⟩ = false := by
    rw [hW1, World.frozen?_of_block (w := W0) (Below.heap_alloc _ _ _ hz0)]; exact g0
  have hfz3 : W1.frozen? ⟨zb, 16, none⟩ = false := by
    rw [hW1, World.frozen?_of_block (w := W0) (Below.heap_alloc _ _ _ hz0)]; exact g3
  have hlk : ∀ q, (Instr.lookup 45 (.map (some w.heap.size)) (.agg #[.string r, .string nm]) true).run Ybaz.prog (W1.drewN q) = .ok (.tuple #[.int .u64 0, .bool false]) (W1.drewN q) := fun q =>
    run_look keys52 Ybaz.underlying45 z23 (W1.drewN q) w.heap.size [] (r, nm) (hm1.of_heap rfl) true
  obtain ⟨o, ho⟩ := run_store_all keys52 Ybaz.underlying45 W1 w.heap.size [] (r, nm) (.int .u64 n) hm1
  have hst : ∀ q, (Instr.mapUpdate 45 (.map (some w.heap.size)) (.agg #[.string r, .string nm]) (.int .u64 n)).run Ybaz.prog (W1.drewN q) = .ok () (ChangeMaps.setBlock (W1.drewN q) w.heap.size o) := fun q => (ho (W1.drewN q) rfl).1
  have hcl : ∀ q a, (ChangeMaps.setBlock (W1.drewN q) w.heap.size o).cell? a = W1.cell? a := fun q a => (ho (W1.drewN q) rfl).2.2.cell a
  have hfr : ∀ q a, (ChangeMaps.setBlock (W1.drewN q) w.heap.size o).frozen? a = W1.frozen? a := fun q a => (ho (W1.drewN q) rfl).2.2.frozen a
  have Ho := Lib.hid ho
  have HW0 := Lib.hid hW0
  have HW := Lib.hid hW1
  clear hm1 hM0 hW1 hW0 ho cl fl c1 z0
  go_enter_defers Ybaz.func8, Ybaz.ntmps8
  go_wp2_with (go_at_call 13; refine (lock_free muLib ⟨zb, 13, none⟩ _ c0 f0).mono ?_; rintro e w' ⟨rfl, rfl⟩)
  rw [← HW0.out]
  refine wp_loop_rounds 2 ?_
  rw [rounds_succ]
  go_wp2_with fail
  rw [← HW.out]
  go_quiet (fail)
  go_wp2_with fail
  go_region
  go_wp2_with fail
  obtain ⟨W2, hW2⟩ : ∃ W2, W2 = (ChangeMaps.setBlock (W1.drewN (nq + 1)) w.heap.size o).setCell ⟨zb, 16, none⟩ (.int .u64 (IntKind.u64.wrap (n + 1))) := ⟨_, rfl⟩
  rw [← hW2]
  obtain ⟨s1, s2, s3, s4, s5, s6⟩ := at_stored p0 p2 p3 hfz hzm hF (Ho.out (W1.drewN (nq + 1)) rfl).2.1 (Ho.out (W1.drewN (nq + 1)) rfl).2.2 hW2
  have HM := Lib.hid s4
  clear hW2 s4 hst hcl hfr hlk
  rw [rounds_succ]
  go_wp2_with fail
  refine leaves_cons (f := 14) (args := #[.pointer (some ⟨zb, 13, none⟩)]) (by simp) (by simp [go_sem]) ?_
  refine (unlock_deferred muLib ⟨zb, 13, none⟩ .returning W2 s1 s6).mono ?_
  rintro e u' w'' ⟨rfl, rfl, rfl⟩
  refine ⟨_, results_none rfl _ _ _, rfl, ?_⟩
  exact added_unlock zb w.heap.size _ _ w W2 0 s1 s2 s3 HM.out s5 hzm

end Go.Proofs.YbulkbseuGreat.AM
