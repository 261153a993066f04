import Derived.Test.YbulkbseuGreatAtomic
import Derived.Test.YbulkbseuGreatChan
import Derived.Test.YbulkbseuGreatLocks
import Derived.Conc.MuLone
import Derived.Lib.Hide
import Derived.Deep.DeepCutAuto
namespace Go.Proofs.YbulkbseuGreat.AM
open Go Go.MapKept Go.RowKit Go.MuLone
set_option linter.unusedVariables false

theorem z91 (w : World) : (zeroValue 91).run Ybaz.prog w = .ok (.pointer none) w := Ybaz.zeroValue91 w

theorem inReg_nil {P : Program} {ops : Array Oper} {Q : Exit → Act → World → Prop} {a : Act} {w : World} (h : Q .normal a w) : InReg P ops Q [] a w := fun b k cs => ⟨.normal, a, w, h, .one step_region_end⟩

theorem cell_setChan {w : World} {c cap : Nat} {buf : Array Value} {cl : Bool} {s r : Nat} {tm : Bool} {b o : Nat} (hb : c ≠ b) : (w.setChan c cap buf cl s r tm).cell? ⟨b, o, none⟩ = w.cell? ⟨b, o, none⟩ :=
  World.cell?_of_block (w := w) (by simp only [World.setChan]; exact Array.getElem?_setIfInBounds_ne hb)

theorem Fr.setChan {S : Nat → Prop} {a w : World} (h : Fr S a w) {c cap : Nat} {buf : Array Value} {cl : Bool} {s r : Nat} {tm : Bool} (hc : S c ∨ a.heap.size ≤ c) : Fr S a (w.setChan c cap buf cl s r tm) :=
  ⟨h.os, h.tape, h.output, by simpa [World.setChan] using h.size, fun i hi hn => by
    have hne : c ≠ i := by rintro rfl; rcases hc with hc | hc; exact hn hc; omega
    simp only [World.setChan]
    rw [Array.getElem?_setIfInBounds_ne hne]
    exact h.block i hi hn⟩

/-- An open channel of one place that holds n values. -/
def ChanIs (w : World) (cb n : Nat) : Prop := ∃ (buf : Array Value) (s r : Nat), w.heap[cb]? = some (.chan 1 buf false s r false) ∧ buf.size = n

/-- A key source's block: 16 cells, the mark at 12. -/
def Src (w : World) (b : Nat) (x : Bool) : Prop := ∃ c, w.heap[b]? = some (.cells c 105 (0, 0)) ∧ c[12]? = some (.int .u32 (bit x))

theorem Src.lt {w : World} {b : Nat} {x : Bool} (h : Src w b x) : b < w.heap.size := by
  obtain ⟨c, h1, _⟩ := h
  exact (Array.getElem?_eq_some_iff.1 h1).1
theorem Src.cell {w : World} {b : Nat} {x : Bool} (h : Src w b x) : w.cell? ⟨b, 12, none⟩ = some (.int .u32 (bit x)) := by
  obtain ⟨c, h1, h2⟩ := h
  simp [World.cell?, h1, h2]
theorem Src.frozen {w : World} {b : Nat} {x : Bool} (h : Src w b x) : w.frozen? ⟨b, 12, none⟩ = false := by
  obtain ⟨c, h1, h2⟩ := h
  simp [World.frozen?, h1]
theorem Src.of_heap {w w' : World} {b : Nat} {x : Bool} (h : Src w b x) (e : w'.heap[b]? = w.heap[b]?) : Src w' b x := by
  obtain ⟨c, h1, h2⟩ := h
  exact ⟨c, e.trans h1, h2⟩
theorem Src.fr {S : Nat → Prop} {w w' : World} {b : Nat} {x : Bool} (h : Src w b x) (hF : Fr S w w') (hs : ¬ S b) : Src w' b x := h.of_heap (hF.block b h.lt hs)
theorem src_set {w : World} {b : Nat} {y : Bool} (h : Src w b y) (x : Bool) : Src (w.setCell ⟨b, 12, none⟩ (.int .u32 (bit x))) b x := by
  obtain ⟨c, h1, h2⟩ := h
  have hlt : 12 < c.size := (Array.getElem?_eq_some_iff.1 h2).1
  refine ⟨c.setIfInBounds 12 (.int .u32 (bit x)), ?_, by simp [hlt]⟩
  simp only [World.setCell, Array.getElem?_modify]
  rw [if_pos trivial, h1]
  rfl

/-- The world behind the boxed name, the lock and the unlock. -/
theorem want_none (sb mb : Nat) (r nm : ByteArray) (L : List ((ByteArray × ByteArray) × Value)) (w : World)
    (c0 : w.cell? ⟨sb, 24, none⟩ = some (.int .i32 0)) (f0 : w.frozen? ⟨sb, 24, none⟩ = false) (c2 : w.cell? ⟨sb, 26, none⟩ = some (.map (some mb)))
    (hm : MapAt enc w mb L) (hg : get L (r, nm) = none) :
    Calls Ybaz.prog 9 #[.pointer (some ⟨sb, 24, none⟩), .agg #[.string r, .string nm]] w fun e w' => e = .returned (.tuple #[]) ∧ Fr (fun i => i = sb) w w' := by
  have hzl : sb < w.heap.size := World.block_lt_of_cell? _ _ c0
  have hsm : sb ≠ mb := fun e => hm.cell 24 _ (by rw [← e]; exact c0)
  obtain ⟨W1, hW1⟩ : ∃ W1, W1 = w.alloc (.cells #[.string r, .string nm] 52) := ⟨_, rfl⟩
  have d0 : W1.cell? ⟨sb, 24, none⟩ = some (.int .i32 0) := by rw [hW1]; exact (World.cell?_alloc_lt _ _ _ hzl).trans c0
  have d2 : W1.cell? ⟨sb, 26, none⟩ = some (.map (some mb)) := by rw [hW1]; exact (World.cell?_alloc_lt _ _ _ hzl).trans c2
  have g0 : W1.frozen? ⟨sb, 24, none⟩ = false := by rw [hW1, World.frozen?_of_block (w := w) (Below.heap_alloc _ _ _ hzl)]; exact f0
  have ka : W1.cell? ⟨w.heap.size, 0, none⟩ = some (.string r) := by rw [hW1]; exact World.cell?_alloc_new _ _ _ _
  have kb : W1.cell? ⟨w.heap.size, 1, none⟩ = some (.string nm) := by rw [hW1]; exact World.cell?_alloc_new _ _ _ _
  obtain ⟨W2, hW2⟩ : ∃ W2, W2 = W1.setCell ⟨sb, 24, none⟩ (.int .i32 1) := ⟨_, rfl⟩
  have e0 : W2.cell? ⟨sb, 24, none⟩ = some (.int .i32 1) := by rw [hW2]; exact World.cell?_setCell_same _ _ _ d0
  have e2 : W2.cell? ⟨sb, 26, none⟩ = some (.map (some mb)) := by rw [hW2]; exact (World.cell?_setCell_other _ _ _ _ (by simp)).trans d2
  have h0 : W2.frozen? ⟨sb, 24, none⟩ = false := by rw [hW2, World.frozen?_setCell]; exact g0
  have ea : W2.cell? ⟨w.heap.size, 0, none⟩ = some (.string r) := by rw [hW2]; exact (World.cell?_setCell_other _ _ _ _ (by simp)).trans ka
  have eb : W2.cell? ⟨w.heap.size, 1, none⟩ = some (.string nm) := by rw [hW2]; exact (World.cell?_setCell_other _ _ _ _ (by simp)).trans kb
  have hm2 : MapAt enc W2 mb L := by
    rw [hW2, hW1]
    exact hm.of_heap ((Below.heap_setCell _ _ _ _ (fun e => hsm e.symm)).trans (Below.heap_alloc _ _ _ hm.lt))
  have hF2 : Fr (fun i => i = sb) w W2 := by rw [hW2, hW1]; exact ((Fr.refl (fun i => i = sb) _).alloc _).setCell (.inl rfl) _
  have hlk : ∀ q, (Instr.lookup 74 (.map (some mb)) (.agg #[.string r, .string nm]) false).run Ybaz.prog (W2.drewN q) = .ok (.pointer none) (W2.drewN q) := fun q => by
    have := run_look keys52 Ybaz.underlying74 z91 (W2.drewN q) mb L (r, nm) (hm2.of_heap rfl) false
    rw [hg] at this
    exact this
  have HW1 := Lib.hid hW1
  have HW2 := Lib.hid hW2
  clear hW1 hW2 hm2 hm hg
  go_enter Ybaz.func9, Ybaz.ntmps9
  go_wp2_with fail
  rw [← HW1.out]
  refine (lock_free muLib ⟨sb, 24, none⟩ W1 d0 g0).mono ?_
  rintro e w' ⟨rfl, rfl⟩
  rw [← HW2.out]
  go_wp2_with fail
  go_quiet (fail)
  go_wp2_with fail
  refine (unlock_held muLib ⟨sb, 24, none⟩ (W2.drewN nq) e0 h0).mono ?_
  rintro e w' ⟨rfl, rfl⟩
  go_wp2_with fail
  refine bodyPost_ret (results_none rfl _ _ _) rfl ⟨rfl, ?_⟩
  exact (hF2.drewN _).setCell (.inl rfl) _

theorem want_some (sb mb b cb : Nat) (x : Bool) (buf : Array Value) (s r0 : Nat) (r nm : ByteArray) (L : List ((ByteArray × ByteArray) × Value)) (w : World)
    (c0 : w.cell? ⟨sb, 24, none⟩ = some (.int .i32 0)) (f0 : w.frozen? ⟨sb, 24, none⟩ = false) (c2 : w.cell? ⟨sb, 26, none⟩ = some (.map (some mb)))
    (hch : w.cell? ⟨sb, 27, none⟩ = some (.chan (some cb))) (hcb : w.heap[cb]? = some (.chan 1 buf false s r0 false)) (hbuf : buf.size ≤ 1)
    (hbq : Src w b x) (hbs : b ≠ sb)
    (hm : MapAt enc w mb L) (hg : get L (r, nm) = some (.pointer (some ⟨b, 0, none⟩))) :
    Calls Ybaz.prog 9 #[.pointer (some ⟨sb, 24, none⟩), .agg #[.string r, .string nm]] w fun e w' => e = .returned (.tuple #[]) ∧ Src w' b true ∧
      ChanIs w' cb (if x then buf.size else 1) ∧ Fr (fun i => i = sb ∨ i = b ∨ i = cb) w w' := by
  have hzl : sb < w.heap.size := World.block_lt_of_cell? _ _ c0
  have hsm : sb ≠ mb := fun e => hm.cell 24 _ (by rw [← e]; exact c0)
  obtain ⟨W1, hW1⟩ : ∃ W1, W1 = w.alloc (.cells #[.string r, .string nm] 52) := ⟨_, rfl⟩
  have d0 : W1.cell? ⟨sb, 24, none⟩ = some (.int .i32 0) := by rw [hW1]; exact (World.cell?_alloc_lt _ _ _ hzl).trans c0
  have d2 : W1.cell? ⟨sb, 26, none⟩ = some (.map (some mb)) := by rw [hW1]; exact (World.cell?_alloc_lt _ _ _ hzl).trans c2
  have g0 : W1.frozen? ⟨sb, 24, none⟩ = false := by rw [hW1, World.frozen?_of_block (w := w) (Below.heap_alloc _ _ _ hzl)]; exact f0
  have ka : W1.cell? ⟨w.heap.size, 0, none⟩ = some (.string r) := by rw [hW1]; exact World.cell?_alloc_new _ _ _ _
  have kb : W1.cell? ⟨w.heap.size, 1, none⟩ = some (.string nm) := by rw [hW1]; exact World.cell?_alloc_new _ _ _ _
  obtain ⟨W2, hW2⟩ : ∃ W2, W2 = W1.setCell ⟨sb, 24, none⟩ (.int .i32 1) := ⟨_, rfl⟩
  have e0 : W2.cell? ⟨sb, 24, none⟩ = some (.int .i32 1) := by rw [hW2]; exact World.cell?_setCell_same _ _ _ d0
  have e2 : W2.cell? ⟨sb, 26, none⟩ = some (.map (some mb)) := by rw [hW2]; exact (World.cell?_setCell_other _ _ _ _ (by simp)).trans d2
  have h0 : W2.frozen? ⟨sb, 24, none⟩ = false := by rw [hW2, World.frozen?_setCell]; exact g0
  have ea : W2.cell? ⟨w.heap.size, 0, none⟩ = some (.string r) := by rw [hW2]; exact (World.cell?_setCell_other _ _ _ _ (by simp)).trans ka
  have eb : W2.cell? ⟨w.heap.size, 1, none⟩ = some (.string nm) := by rw [hW2]; exact (World.cell?_setCell_other _ _ _ _ (by simp)).trans kb
  have hm2 : MapAt enc W2 mb L := by
    rw [hW2, hW1]
    exact hm.of_heap ((Below.heap_setCell _ _ _ _ (fun e => hsm e.symm)).trans (Below.heap_alloc _ _ _ hm.lt))
  have hF2 : Fr (fun i => i = sb ∨ i = b ∨ i = cb) w W2 := by rw [hW2, hW1]; exact ((Fr.refl (fun i => i = sb ∨ i = b ∨ i = cb) _).alloc _).setCell (.inl (.inl rfl)) _
  have hlk : ∀ q, (Instr.lookup 74 (.map (some mb)) (.agg #[.string r, .string nm]) false).run Ybaz.prog (W2.drewN q) = .ok (.pointer (some ⟨b, 0, none⟩)) (W2.drewN q) := fun q => by
    have := run_look keys52 Ybaz.underlying74 z91 (W2.drewN q) mb L (r, nm) (hm2.of_heap rfl) false
    rw [hg] at this
    exact this
  have hbl : b < w.heap.size := hbq.lt
  have hbc := hbq.cell
  have hbf := hbq.frozen
  have hcl : cb < w.heap.size := (Array.getElem?_eq_some_iff.1 hcb).1
  have hcs : cb ≠ sb := fun e => by rw [e] at hcb; simp [World.cell?, hcb] at c0
  have hcbb : cb ≠ b := fun e => by rw [e] at hcb; simp [World.cell?, hcb] at hbc
  have e27 : W2.cell? ⟨sb, 27, none⟩ = some (.chan (some cb)) := by rw [hW2, hW1]; exact (World.cell?_setCell_other _ _ _ _ (by simp)).trans ((World.cell?_alloc_lt _ _ _ hzl).trans hch)
  have e12 : W2.cell? ⟨b, 12, none⟩ = some (.int .u32 (bit x)) := by rw [hW2, hW1]; exact (World.cell?_setCell_other _ _ _ _ (by simp)).trans ((World.cell?_alloc_lt _ _ _ hbl).trans hbc)
  have h12 : W2.frozen? ⟨b, 12, none⟩ = false := by rw [hW2, hW1, World.frozen?_setCell, World.frozen?_of_block (w := w) (Below.heap_alloc _ _ _ hbl)]; exact hbf
  have ech : W2.heap[cb]? = some (.chan 1 buf false s r0 false) := by rw [hW2, hW1]; exact (Below.heap_setCell _ _ _ _ hcs).trans ((Below.heap_alloc _ _ _ hcl).trans hcb)
  have HW1 := Lib.hid hW1
  have HW2 := Lib.hid hW2
  clear hW1 hW2 hm2 hm hg
  go_enter Ybaz.func9, Ybaz.ntmps9
  go_wp2_with fail
  rw [← HW1.out]
  refine (lock_free muLib ⟨sb, 24, none⟩ W1 d0 g0).mono ?_
  rintro e w' ⟨rfl, rfl⟩
  rw [← HW2.out]
  go_wp2_with fail
  go_quiet (fail)
  go_wp2_with fail
  refine (unlock_held muLib ⟨sb, 24, none⟩ (W2.drewN nq) e0 h0).mono ?_
  rintro e w' ⟨rfl, rfl⟩
  obtain ⟨W3, hW3⟩ : ∃ W3, W3 = (W2.drewN nq).setCell ⟨sb, 24, none⟩ (.int .i32 0) := ⟨_, rfl⟩
  rw [← hW3]
  have l27 : W3.cell? ⟨sb, 27, none⟩ = some (.chan (some cb)) := by rw [hW3]; exact (World.cell?_setCell_other _ _ _ _ (by simp)).trans e27
  have l12 : W3.cell? ⟨b, 12, none⟩ = some (.int .u32 (bit x)) := by rw [hW3]; exact (World.cell?_setCell_other _ _ _ _ (by simp)).trans e12
  have m12 : W3.frozen? ⟨b, 12, none⟩ = false := by rw [hW3, World.frozen?_setCell]; exact h12
  have lch : W3.heap[cb]? = some (.chan 1 buf false s r0 false) := by rw [hW3]; exact (Below.heap_setCell _ _ _ _ hcs).trans ech
  have hq3 : Src W3 b x := by
    rw [hW3, HW2.out, HW1.out]
    exact hbq.of_heap ((Below.heap_setCell _ _ _ _ hbs).trans ((Below.heap_setCell _ _ _ _ hbs).trans (Below.heap_alloc _ _ _ hbl)))
  have hF3 : Fr (fun i => i = sb ∨ i = b ∨ i = cb) w W3 := by rw [hW3]; exact (hF2.drewN _).setCell (.inl (.inl rfl)) _
  clear hW3 hlk e0 e2 h0 ea eb ka kb d0 d2 g0 e27 e12 h12
  have Hch := Lib.hid lch
  have Hq3 := Lib.hid hq3
  have Hbq := Lib.hid hbq
  clear ech lch hq3 hbq
  cases x with
  | true =>
    go_wp2_with fail
    refine (cas_miss b _ l12 m12).mono ?_
    rintro e w' ⟨rfl, rfl⟩
    go_wp2_with fail
    refine bodyPost_ret (results_none rfl _ _ _) rfl ⟨rfl, Hq3.out, ⟨buf, s, r0, Hch.out, rfl⟩, hF3.drew⟩
  | false =>
    go_wp2_with fail
    refine (cas_hit b _ l12 m12).mono ?_
    rintro e w' ⟨rfl, rfl⟩
    obtain ⟨W4, hW4⟩ : ∃ W4, W4 = (W3.setCell ⟨b, 12, none⟩ (.int .u32 (bit true))).drew := ⟨_, rfl⟩
    rw [← hW4]
    have n12 : W4.cell? ⟨b, 12, none⟩ = some (.int .u32 (bit true)) := by rw [hW4]; exact World.cell?_setCell_same _ _ _ l12
    have n27 : W4.cell? ⟨sb, 27, none⟩ = some (.chan (some cb)) := by rw [hW4]; exact (World.cell?_setCell_other _ _ _ _ (by simp)).trans l27
    have nch : W4.heap[cb]? = some (.chan 1 buf false s r0 false) := by rw [hW4]; exact (Below.heap_setCell _ _ _ _ hcbb).trans Hch.out
    have hq4 : Src W4 b true := by rw [hW4]; exact src_set Hq3.out true
    have hF4 : Fr (fun i => i = sb ∨ i = b ∨ i = cb) w W4 := by rw [hW4]; exact (hF3.setCell (.inl (.inr (.inl rfl))) _).drew
    have Nch := Lib.hid nch
    have Hq4 := Lib.hid hq4
    clear hW4 nch l12 m12 l27 hq4
    go_upto_region 7 with fail
    by_cases hfull : buf.size < 1
    · refine wp_inReg (inReg_comm (cases := #[Conc.scase cb (.agg #[]) (.agg #[])]) (blocking := false) (shape := .select) (w₁ := W4) (v := .tuple #[goInt 0, .bool false]) rfl (by kernel_rfl) (by kernel_rfl) (fun fr cs es h => lone_select_send_room h Nch.out hfull) ?_)
      refine inReg_same (v := goInt 0) rfl (by kernel_rfl) (by kernel_rfl) ?_
      refine inReg_same (v := .bool true) rfl (by kernel_rfl) (by kernel_rfl) ?_
      refine inReg_nil ?_
      obtain ⟨W5, hW5⟩ : ∃ W5, W5 = W4.setChan cb 1 (buf.push (.agg #[])) false (s + 1) r0 false := ⟨_, rfl⟩
      rw [← hW5]
      have hsz : cb < W4.heap.size := (Array.getElem?_eq_some_iff.1 Nch.out).1
      have P5 : Hid (Src W5 b true ∧ ChanIs W5 cb 1 ∧ Fr (fun i => i = sb ∨ i = b ∨ i = cb) w W5) := by
        rw [hW5]
        exact ⟨Hq4.out.of_heap (by simp only [World.setChan]; exact Array.getElem?_setIfInBounds_ne hcbb), ⟨_, _, _, Conc.heap_setChan _ _ _ _ _ _ _ _ hsz, by rw [Array.size_push]; omega⟩, hF4.setChan (.inl (.inr (.inr rfl)))⟩
      clear hW5
      go_simp
      go_wp2_with fail
      go_end0
      exact ⟨rfl, P5.out⟩
    · refine wp_inReg (inReg_comm (cases := #[Conc.scase cb (.agg #[]) (.agg #[])]) (blocking := false) (shape := .select) (w₁ := W4) (v := .tuple #[goInt (-1), .bool false]) rfl (by kernel_rfl) (by kernel_rfl) (fun fr cs es h => lone_select_send_full h Nch.out hfull) ?_)
      refine inReg_same (v := goInt (-1)) rfl (by kernel_rfl) (by kernel_rfl) ?_
      refine inReg_same (v := .bool false) rfl (by kernel_rfl) (by kernel_rfl) ?_
      refine inReg_nil ?_
      have P5 : Hid (Src W4 b true ∧ ChanIs W4 cb 1 ∧ Fr (fun i => i = sb ∨ i = b ∨ i = cb) w W4) := ⟨Hq4.out, ⟨_, _, _, Nch.out, by omega⟩, hF4⟩
      go_simp
      go_wp2_with fail
      go_end0
      exact ⟨rfl, P5.out⟩

end Go.Proofs.YbulkbseuGreat.AM
