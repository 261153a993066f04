import Derived.Test.YbulkbseuGreatIssuer
import Derived.Laws.MakeOwn
import Derived.Laws.Tables
import Derived.Deep.LoopGhost
import Derived.Deep.DeepCutAuto
import Derived.LaidEqlPtr
namespace Go.Proofs.YbulkbseuGreat.AM
open Go Go.MapKept Go.RowKit Go.MuLone
set_option linter.unusedVariables false

theorem info91 : (Ybaz.prog.info? 91).map (fun i => (i.zero, i.size, i.bytes)) = some (some (.pointer none), 1, 8) := by kernel_rfl
theorem info4 : (Ybaz.prog.info? 4).map (fun i => (i.zero, i.size, i.bytes)) = some (some (.bool false), 1, 1) := by kernel_rfl
theorem make90 (w : World) (n : Nat) (h : n ≤ 1024) : (Instr.makeSlice 90 (.int .i64 n) (.int .i64 n)).run Ybaz.prog w = .ok (.slice (some ⟨w.heap.size, 0, none⟩) n n) (w.alloc (.cells (madeCells #[.pointer none] n) 91)) := by
  obtain ⟨i, hi, hz0, hz1, hz2⟩ := info_parts info91
  have := run_make (P := Ybaz.prog) w 90 91 i (.pointer none) Ybaz.underlying90 hi hz0 .i64 .i64 n n (by omega) (by omega) (by rw [hz2]; omega) (by omega)
  rw [this]
  simp [hz1, Value.cells]
theorem make107 (w : World) (n : Nat) (h : n ≤ 1024) : (Instr.makeSlice 107 (.int .i64 n) (.int .i64 n)).run Ybaz.prog w = .ok (.slice (some ⟨w.heap.size, 0, none⟩) n n) (w.alloc (.cells (madeCells #[.bool false] n) 4)) := by
  obtain ⟨i, hi, hz0, hz1, hz2⟩ := info_parts info4
  have := run_make (P := Ybaz.prog) w 107 4 i (.bool false) Ybaz.underlying107 hi hz0 .i64 .i64 n n (by omega) (by omega) (by rw [hz2]; omega) (by omega)
  rw [this]
  simp [hz1, Value.cells]

theorem make75 (w : World) : (Instr.makeChan 75 (.int .i64 1)).run Ybaz.prog w = .ok (.chan (some w.heap.size)) (w.alloc (.chan 1 #[] false 0 0 false)) := by
  obtain ⟨i, hi, hb⟩ : ∃ i, Ybaz.prog.info? 34 = some i ∧ i.bytes = 0 := by
    have h : (Ybaz.prog.info? 34).map (fun i => i.bytes) = some 0 := by kernel_rfl
    cases hi : Ybaz.prog.info? 34 with
    | none => rw [hi] at h; cases h
    | some i => rw [hi] at h; exact ⟨i, rfl, by simpa using h⟩
  have := Conc.run_makeChan (P := Ybaz.prog) (w := w) Ybaz.underlying75 hi .i64 1 (by decide) (by rw [hb]; decide)
  exact this

/-- The sources, as they lie: realm, name, wanted. -/
def Sources (B : Nat) (w : World) (a : Option Addr) (len : Nat) (S : Nat → ByteArray × ByteArray) (X : Nat → Bool) : Prop :=
  len = 0 ∨ ∃ b off, a = some ⟨b, off, none⟩ ∧ b < B ∧ ∀ j, j < len → w.cell? ⟨b, off + j * 3, none⟩ = some (.string (S j).1) ∧ w.cell? ⟨b, off + j * 3 + 1, none⟩ = some (.string (S j).2) ∧ w.cell? ⟨b, off + j * 3 + 2, none⟩ = some (.bool (X j))

theorem Sources.fr {F : Nat → Prop} {B B' : Nat} {w w' : World} {a : Option Addr} {len : Nat} {S : Nat → ByteArray × ByteArray} {X : Nat → Bool} (h : Sources B w a len S X) (hF : Fr F w w') (hB : B ≤ w.heap.size) (hs : ∀ i, i < B → ¬ F i) (hB' : B ≤ B') : Sources B' w' a len S X := by
  rcases h with h | ⟨b, off, e, hb, hc⟩
  · exact .inl h
  · have hb' : b < w.heap.size := Nat.lt_of_lt_of_le hb hB
    exact .inr ⟨b, off, e, Nat.lt_of_lt_of_le hb hB', fun j hj => ⟨(hF.cell (p := ⟨b, off + j * 3, none⟩) hb' (hs b hb)).trans (hc j hj).1, (hF.cell (p := ⟨b, off + j * 3 + 1, none⟩) hb' (hs b hb)).trans (hc j hj).2.1, (hF.cell (p := ⟨b, off + j * 3 + 2, none⟩) hb' (hs b hb)).trans (hc j hj).2.2⟩⟩

/-- Behind k rounds of the first loop: the map at mb, the pointers at pb, the sources' blocks. -/
structure M1 (W3 wr : World) (mb pb len k : Nat) (X : Nat → Bool) (L : List ((ByteArray × ByteArray) × Value)) (Bs : Nat → Nat) : Prop where
  mp : MapAt enc wr mb L
  at_ : ∀ j, j < len → ∃ v, wr.cell? ⟨pb, j, none⟩ = some v
  fz : ∀ j, wr.frozen? ⟨pb, j, none⟩ = false
  ptr : ∀ j, j < k → wr.cell? ⟨pb, j, none⟩ = some (.pointer (some ⟨Bs j, 0, none⟩))
  src : ∀ j, j < k → Src wr (Bs j) (X j)
  new : ∀ j, j < k → W3.heap.size ≤ Bs j
  inj : ∀ i j, i < k → j < k → Bs i = Bs j → i = j
  vals : ∀ key v, get L key = some v → ∃ j, j < k ∧ v = .pointer (some ⟨Bs j, 0, none⟩)
  fr : Fr (fun i => i = mb ∨ i = pb) W3 wr

/-- the zero key source -/
def srcZero : Array Value := #[.string ⟨#[]⟩, .string ⟨#[]⟩, .nilIface, .nilFunc, .int .u32 0, .pointer none, .string ⟨#[]⟩, .int .u64 0, .int .i64 0, .pointer none, .pointer none, .slice none 0 0, .int .u32 0, .int .u64 0, .int .i64 0, .pointer none]

theorem src_new (w : World) (o : Obj) : Src ((w.alloc o).alloc (.cells srcZero 105)) (w.heap.size + 1) false :=
  ⟨srcZero, by show ((w.heap.push o).push _)[w.heap.size + 1]? = _; rw [Array.getElem?_push]; simp, rfl⟩

theorem m1_step {W3 wr W2 w' : World} {mb pb len k B : Nat} {X : Nat → Bool} {L : List ((ByteArray × ByteArray) × Value)} {Bs : Nat → Nat} {key : ByteArray × ByteArray} (h : M1 W3 wr mb pb len k X L Bs) (hk : k < len) (hpm : pb ≠ mb) (hpb : pb < W3.heap.size) (hmb : mb < W3.heap.size)
    (hB : wr.heap.size ≤ B) (hF : Fr (fun _ => False) wr W2) (hS : Src W2 B (X k)) (hM : MapAt enc w' mb (put L key (.pointer (some ⟨B, 0, none⟩)))) (hT : Turn W2 w' mb) :
    M1 W3 (w'.setCell ⟨pb, k, none⟩ (.pointer (some ⟨B, 0, none⟩))) mb pb len (k + 1) X (put L key (.pointer (some ⟨B, 0, none⟩))) (fun j => if j = k then B else Bs j) := by
  have hsz := h.fr.size
  have hc : ∀ j, w'.cell? ⟨pb, j, none⟩ = wr.cell? ⟨pb, j, none⟩ := fun j => (hT.cell _).trans (hF.cell (p := ⟨pb, j, none⟩) (by simp; omega) (fun h => h))
  obtain ⟨v0, hv0⟩ := h.at_ k hk
  have hs : (w'.setCell ⟨pb, k, none⟩ (.pointer (some ⟨B, 0, none⟩))).cell? ⟨pb, k, none⟩ = some (.pointer (some ⟨B, 0, none⟩)) := World.cell?_setCell_same _ _ _ ((hc k).trans hv0)
  have ho : ∀ j, j ≠ k → (w'.setCell ⟨pb, k, none⟩ (.pointer (some ⟨B, 0, none⟩))).cell? ⟨pb, j, none⟩ = wr.cell? ⟨pb, j, none⟩ := fun j hj =>
    (World.cell?_setCell_other _ _ _ _ (fun e => hj (by simpa using e.symm))).trans (hc j)
  have hblk : ∀ b, W3.heap.size ≤ b → (w'.setCell ⟨pb, k, none⟩ (.pointer (some ⟨B, 0, none⟩))).heap[b]? = W2.heap[b]? := fun b hb =>
    (Below.heap_setCell _ _ _ _ (by simp; omega)).trans (hT.other b (by omega))
  refine ⟨?_, fun j hj => ?_, fun j => ?_, fun j hj => ?_, fun j hj => ?_, fun j hj => ?_, fun i j hi hj e => ?_, fun ky v hv => ?_, ?_⟩
  · exact hM.of_heap (Below.heap_setCell _ _ _ _ (fun e => hpm e.symm))
  · by_cases c : j = k
    · subst c; exact ⟨_, hs⟩
    · obtain ⟨u, hu⟩ := h.at_ j hj
      exact ⟨u, (ho j c).trans hu⟩
  · rw [World.frozen?_setCell]
    exact (hT.frozen _).trans ((hF.frozen (p := ⟨pb, j, none⟩) (by simp; omega) (fun h => h)).trans (h.fz j))
  · by_cases c : j = k
    · subst c; rw [if_pos rfl]; exact hs
    · rw [if_neg c]; exact (ho j c).trans (h.ptr j (by omega))
  · by_cases c : j = k
    · subst c; rw [if_pos rfl]; exact hS.of_heap (hblk B (by omega))
    · rw [if_neg c]
      have h0 := h.src j (by omega)
      have h1 := h.new j (by omega)
      exact (h0.fr hF (fun h => h)).of_heap (hblk (Bs j) h1)
  · by_cases c : j = k
    · rw [if_pos c]; omega
    · rw [if_neg c]; exact h.new j (by omega)
  · by_cases c : i = k
    · by_cases d : j = k
      · rw [c, d]
      · simp only [c, d, if_true, if_false] at e
        have := (h.src j (by omega)).lt
        omega
    · by_cases d : j = k
      · simp only [c, d, if_true, if_false] at e
        have := (h.src i (by omega)).lt
        omega
      · simp only [c, d, if_false] at e
        exact h.inj i j (by omega) (by omega) e
  · rw [get_put] at hv
    by_cases c : ky = key
    · rw [if_pos c] at hv
      simp only [Option.some.injEq] at hv
      exact ⟨k, by omega, by rw [if_pos rfl]; exact hv.symm⟩
    · rw [if_neg c] at hv
      obtain ⟨j, hj, rfl⟩ := h.vals ky v hv
      exact ⟨j, by omega, by rw [if_neg (by omega)]⟩
  · exact ((h.fr.trans hF (fun _ _ h => h.elim)).turn hT (.inl (.inl rfl))).setCell (.inl (.inr rfl)) _

/-- Behind j rounds of the second loop: what was wanted lies at ub. -/
structure M2 (W5 wr : World) (ub len j : Nat) (X : Nat → Bool) : Prop where
  at_ : ∀ i, i < len → ∃ v, wr.cell? ⟨ub, i, none⟩ = some v
  done : ∀ i, i < j → wr.cell? ⟨ub, i, none⟩ = some (.bool (X i))
  fz : ∀ i, wr.frozen? ⟨ub, i, none⟩ = false
  fr : Fr (fun i => i = ub) W5 wr

theorem m2_step {W5 wr : World} {ub len j : Nat} {X : Nat → Bool} (h : M2 W5 wr ub len j X) (hj : j < len) : M2 W5 (wr.setCell ⟨ub, j, none⟩ (.bool (X j))) ub len (j + 1) X := by
  obtain ⟨v, hv⟩ := h.at_ j hj
  have hs : (wr.setCell ⟨ub, j, none⟩ (.bool (X j))).cell? ⟨ub, j, none⟩ = some (.bool (X j)) := World.cell?_setCell_same _ _ _ hv
  have ho : ∀ i, i ≠ j → (wr.setCell ⟨ub, j, none⟩ (.bool (X j))).cell? ⟨ub, i, none⟩ = wr.cell? ⟨ub, i, none⟩ := fun i hi => World.cell?_setCell_other _ _ _ _ (fun e => hi (by simpa using e.symm))
  refine ⟨fun i hi => ?_, fun i hi => ?_, fun i => ?_, h.fr.setCell (.inl rfl) _⟩
  · by_cases c : i = j
    · subst c; exact ⟨_, hs⟩
    · obtain ⟨u, hu⟩ := h.at_ i hi
      exact ⟨u, (ho i c).trans hu⟩
  · by_cases c : i = j
    · subst c; exact hs
    · exact (ho i c).trans (h.done i (by omega))
  · rw [World.frozen?_setCell]; exact h.fz i

theorem chan_len {w : World} {cb n : Nat} (h : ChanIs w cb n) (ty : TypeId) : (Builtin.len_ #[75] ty #[.chan (some cb)]).run Ybaz.prog w = .ok (.int .i64 n) w := by
  obtain ⟨buf, s, r, h1, h2⟩ := h
  have hg : (getObj cb).run Ybaz.prog w = .ok (.chan 1 buf false s r false) w := by simp [getObj, Sem.run, h1]
  simp [Builtin.len_, run_underlying Ybaz.underlying75, hg, h2, goInt]

theorem ChanIs.fr {S : Nat → Prop} {w w' : World} {cb n : Nat} (h : ChanIs w cb n) (hF : Fr S w w') (hs : ¬ S cb) : ChanIs w' cb n := by
  obtain ⟨buf, s, r, h1, h2⟩ := h
  exact ⟨buf, s, r, (hF.block cb (Array.getElem?_eq_some_iff.1 h1).1 hs).trans h1, h2⟩

theorem eq91_same (b : Nat) (w : World) : (binOp .eql 91 (.pointer (some ⟨b, 0, none⟩)) (.pointer (some ⟨b, 0, none⟩))).run Ybaz.prog w = .ok (.bool true) w := by
  obtain ⟨i, hi⟩ : ∃ i, Ybaz.prog.info? 105 = some i := by
    have h : (Ybaz.prog.info? 105).isSome = true := by kernel_rfl
    exact Option.isSome_iff_exists.1 h
  exact run_eql_ptr_same w ⟨b, 0, none⟩ Ybaz.underlying91 hi
theorem eq91_other {b b' : Nat} {x x' : Bool} {w : World} (h : Src w b x) (h' : Src w b' x') (hne : b ≠ b') : (binOp .eql 91 (.pointer (some ⟨b, 0, none⟩)) (.pointer (some ⟨b', 0, none⟩))).run Ybaz.prog w = .ok (.bool false) w := by
  obtain ⟨i, hi, hs⟩ : ∃ i, Ybaz.prog.info? 105 = some i ∧ i.size = 16 := by
    have h : (Ybaz.prog.info? 105).map (fun i => i.size) = some 16 := by kernel_rfl
    cases hi : Ybaz.prog.info? 105 with
    | none => rw [hi] at h; cases h
    | some i => rw [hi] at h; exact ⟨i, rfl, by simpa using h⟩
  obtain ⟨c, h1, _⟩ := h
  obtain ⟨c', h1', _⟩ := h'
  exact run_eql_ptr_other w Ybaz.underlying91 hi (by rw [hs]; decide) (fun e => hne (by injection e)) h1 h1'

/-- What stands in the last loop. -/
structure Tail (w0 wr : World) (mb ub j : Nat) (X : Nat → Bool) (Bs : Nat → Nat) (tgt : Option Nat) : Prop where
  un : ∀ i, i < j → wr.cell? ⟨ub, i, none⟩ = some (.bool (X i))
  ptr : ∀ i, i < j → wr.cell? ⟨mb + 1, i, none⟩ = some (.pointer (some ⟨Bs i, 0, none⟩))
  src : ∀ i, i < j → tgt ≠ some (Bs i) → Src wr (Bs i) (X i)
  tg : ∀ b, tgt = some b → Src wr b true
  fr : Fr (fun _ => False) w0 wr

theorem Tail.drewN {w0 wr : World} {mb ub j : Nat} {X : Nat → Bool} {Bs : Nat → Nat} {tgt : Option Nat} (h : Tail w0 wr mb ub j X Bs tgt) (n : Nat) : Tail w0 (wr.drewN n) mb ub j X Bs tgt :=
  ⟨h.un, h.ptr, h.src, h.tg, h.fr.drewN n⟩

theorem tail_of {w0 W8 W9 W10 : World} {mb ub cb sb j n : Nat} {X : Nat → Bool} {Bs : Nat → Nat} {tgt : Option Nat}
    (hs8 : ∀ i, i < j → Src W8 (Bs i) (X i)) (hu8 : ∀ i, i < j → W8.cell? ⟨ub, i, none⟩ = some (.bool (X i))) (hp8 : ∀ i, i < j → W8.cell? ⟨mb + 1, i, none⟩ = some (.pointer (some ⟨Bs i, 0, none⟩)))
    (hbl : ∀ i, i < j → Bs i < ub ∧ mb + 2 ≤ Bs i) (hF08 : Fr (fun _ => False) w0 W8) (hF9 : Fr (fun _ => False) W8 W9) (hI : Issued W9 W10 sb cb tgt n)
    (hw : w0.heap.size ≤ mb) (h1 : mb + 2 ≤ ub) (h2 : ub < cb) (h3 : cb < sb) (h4 : sb < W8.heap.size) (ht : ∀ b, tgt = some b → ∃ i, i < j ∧ b = Bs i) : Tail w0 W10 mb ub j X Bs tgt := by
  have hF : Fr (fun i => i = sb ∨ tgt = some i ∨ i = cb) W8 W10 := (hF9.mono (fun _ _ h => h.elim)).trans hI.fr (fun _ _ h => h)
  refine ⟨fun i hi => (hF.cell (p := ⟨ub, i, none⟩) (by simp; omega) ?_).trans (hu8 i hi), fun i hi => (hF.cell (p := ⟨mb + 1, i, none⟩) (by simp; omega) ?_).trans (hp8 i hi), fun i hi hne => (hs8 i hi).fr hF ?_, hI.tg, hF08.trans hF ?_⟩
  · rintro (h | h | h)
    · simp at h; omega
    · obtain ⟨i', hi', e⟩ := ht _ h
      have := hbl i' hi'
      simp at e; omega
    · simp at h; omega
  · rintro (h | h | h)
    · simp at h; omega
    · obtain ⟨i', hi', e⟩ := ht _ h
      have := hbl i' hi'
      simp at e; omega
    · simp at h; omega
  · rintro (h | h | h)
    · have := hbl i hi; omega
    · exact hne h
    · have := hbl i hi; omega
  · rintro i hi (h | h | h)
    · omega
    · obtain ⟨i', hi', e⟩ := ht _ h
      have := hbl i' hi'
      omega
    · omega

set_option maxRecDepth 100000 in
set_option maxHeartbeats 1000000 in
theorem issuer_in (r nm : ByteArray) (a : Option Addr) (len cap : Nat) (S : Nat → ByteArray × ByteArray) (X : Nat → Bool) (full : Bool) (pick : Int) (w : World) (hl : len ≤ 1024) (bp : 0 ≤ pick ∧ pick ≤ 255)
    (hP : Sources w.heap.size w a len S X) :
    Calls Ybaz.prog 4 #[.string r, .string nm, .slice a len cap, .bool full, .int .u8 pick] w fun e w' => e = .returned (.bool true) ∧ Below w.heap.size w w' := by
  have d1 : decide ((1024 : Int) < len) = false := by simp; omega
  have hm1 := fun W => make90 W len hl
  have hm2 := fun W => make107 W len hl
  have hmm := @run_makeMap Ybaz.prog
  go_enter Ybaz.func4, Ybaz.ntmps4
  go_upto_region 3 with fail
  go_cut [38] (fun s w1 => ∃ b : Bool, s = .bool b ∧ (b = true → 0 < len) ∧ w1 = w)
  case first =>
    go_wp2_with fail
    all_goals go_meet
    · case rel => exact ⟨_, rfl, fun _ => by omega, rfl⟩
    · case rel => exact ⟨_, rfl, fun h => by simp at h, rfl⟩
  case rest =>
  obtain ⟨b, rfl, hb, rfl⟩ := hcut
  rename World => w0
  go_upto_if 38 with fail
  go_cut [0, 1, 11] (fun s0 s1 _ w1 => ∃ r' nm', s0 = .string r' ∧ s1 = .string nm' ∧ Fr (fun _ => False) w0 w1)
  case first =>
    cases b with
    | false =>
      go_wp2_with fail
      go_meet
      case rel => exact ⟨r, nm, rfl, rfl, Fr.refl _ _⟩
    | true =>
      have hpos := hb rfl
      rcases hP with h0 | ⟨b, off, rfl, hbw, hc⟩
      · omega
      have hix : 0 ≤ pick / 2 % (len : Int) ∧ pick / 2 % (len : Int) < len := ⟨Int.emod_nonneg _ (by omega), Int.emod_lt_of_pos _ (by omega)⟩
      obtain ⟨q1, q2, q3⟩ := hc (pick / 2 % (len : Int)).toNat (by omega)
      clear hc
      go_wp2_with fail
      go_meet
      case rel => exact ⟨_, _, rfl, rfl, (Fr.refl _ _).alloc _⟩
  case rest =>
    obtain ⟨r', nm', rfl, rfl, hF1⟩ := hcut
    have hP1 := hP.fr hF1 (Nat.le_refl _) (fun _ _ h => h) hF1.size
    clear hP hb
    go_wp2_with fail
    obtain ⟨W3, hW3⟩ : ∃ W3, W3 = (wc.alloc (.map #[] 0)).alloc (.cells (madeCells #[.pointer none] len) 91) := ⟨_, rfl⟩
    rw [← hW3]
    obtain ⟨mb, hmb⟩ : ∃ mb, mb = wc.heap.size := ⟨_, rfl⟩
    rw [← hmb]
    have z3 : W3.heap.size = mb + 2 := by rw [hW3, hmb]; simp
    have hF3 : Fr (fun _ => False) w0 W3 := by rw [hW3]; exact (hF1.alloc _).alloc _
    have hP3 : Sources mb W3 a len S X := by
      rw [hmb]
      exact hP1.fr (w' := W3) (F := fun _ => False) (by rw [hW3]; exact ((Fr.refl _ _).alloc _).alloc _) (Nat.le_refl _) (fun _ _ h => h) (Nat.le_refl _)
    have ce : ∀ j, j < len → W3.cell? ⟨mb + 1, j, none⟩ = some (.pointer none) := fun j hj => by
      have := World.cell?_alloc_new (wc.alloc (.map #[] 0)) (madeCells #[.pointer none] len) 91 j
      rw [World.size_alloc, ← hmb, ← hW3] at this
      rw [this]; simp [madeCells, hj, Nat.mod_one]
    have fe : ∀ o, W3.frozen? ⟨mb + 1, o, none⟩ = false := fun o => by rw [hW3, hmb]; simp
    have hM3 : MapAt enc W3 mb ([] : List ((ByteArray × ByteArray) × Value)) := by
      rw [hW3, hmb]; exact (MapAt.new wc).of_heap (Below.heap_alloc _ _ _ (by simp))
    have hz3 : mb + 2 ≤ W3.heap.size := by omega
    have hwz : w0.heap.size ≤ mb := by rw [hmb]; exact hF1.size
    clear hW3 hmb hP1 hF1 z3 hm1
    go_loopw [58] (fun i wr => ∃ (k : Nat) (L : List ((ByteArray × ByteArray) × Value)) (Bs : Nat → Nat), k ≤ len ∧ i = .int .i64 k ∧ M1 W3 wr mb (mb + 1) len k X L Bs) (fun i _ => len - (intOf i).toNat)
    case atStart => exact ⟨0, [], fun _ => 0, Nat.zero_le _, rfl, hM3, fun j hj => ⟨_, ce j hj⟩, fe, fun j hj => by omega, fun j hj => by omega, fun j hj => by omega, fun i j hi hj => by omega, fun ky v hv => by simp [get] at hv, Fr.refl _ _⟩
    case round =>
      obtain ⟨k, L, Bs, hk, rfl, h1⟩ := hrel
      have hwr := h1.fr.size
      by_cases hlt : k < len
      · rcases hP3 with h0 | ⟨b, off, rfl, hbw, hc⟩
        · omega
        obtain ⟨x, hx⟩ : ∃ x, x = S k := ⟨_, rfl⟩
        obtain ⟨r1, n1⟩ := x
        obtain ⟨x1, hx1⟩ : ∃ x1, x1 = X k := ⟨_, rfl⟩
        have hck := hc k hlt
        rw [← hx, ← hx1] at hck
        have q1 : wr.cell? ⟨b, off + k * 3, none⟩ = some (.string r1) := (h1.fr.cell (p := ⟨b, off + k * 3, none⟩) (by simp; omega) (by simp; omega)).trans hck.1
        have q2 : wr.cell? ⟨b, off + k * 3 + 1, none⟩ = some (.string n1) := (h1.fr.cell (p := ⟨b, off + k * 3 + 1, none⟩) (by simp; omega) (by simp; omega)).trans hck.2.1
        have q3 : wr.cell? ⟨b, off + k * 3 + 2, none⟩ = some (.bool x1) := (h1.fr.cell (p := ⟨b, off + k * 3 + 2, none⟩) (by simp; omega) (by simp; omega)).trans hck.2.2
        have hbr : b < wr.heap.size := by omega
        have Hx := Lib.hid (And.intro hx hx1)
        clear hc hck hx hx1
        go_wp2_with fail
        obtain ⟨W1, hW1⟩ : ∃ W1, W1 = (wr.alloc (.cells #[.string r1, .string n1, .bool x1] 89)).alloc (.cells srcZero 105) := ⟨_, rfl⟩
        have hW1' : W1 = (wr.alloc (.cells #[.string r1, .string n1, .bool x1] 89)).alloc (.cells #[.string ⟨#[]⟩, .string ⟨#[]⟩, .nilIface, .nilFunc, .int .u32 0, .pointer none, .string ⟨#[]⟩, .int .u64 0, .int .i64 0, .pointer none, .pointer none, .slice none 0 0, .int .u32 0, .int .u64 0, .int .i64 0, .pointer none] 105) := hW1
        rw [← hW1']
        have hFW : Fr (fun _ => False) wr W1 := by rw [hW1]; exact ((Fr.refl _ _).alloc _).alloc _
        have pa : ∀ o, W1.cell? ⟨wr.heap.size, o, none⟩ = (#[.string r1, .string n1, .bool x1] : Array Value)[o]? := fun o => by
          rw [hW1, World.cell?_alloc_lt _ _ _ (by simp)]; exact World.cell?_alloc_new _ _ _ _
        have hS1 : Src W1 (wr.heap.size + 1) false := by rw [hW1]; exact src_new _ _
        have p0 : W1.cell? ⟨wr.heap.size, 0, none⟩ = some (.string r1) := by rw [pa]; rfl
        have p1 : W1.cell? ⟨wr.heap.size, 1, none⟩ = some (.string n1) := by rw [pa]; rfl
        have p2 : W1.cell? ⟨wr.heap.size, 2, none⟩ = some (.bool x1) := by rw [pa]; rfl
        obtain ⟨B, hB⟩ : ∃ B, B = wr.heap.size + 1 := ⟨_, rfl⟩
        rw [← hB] at hS1 ⊢
        have hst := store_any B x1 _ W1.drew hS1.cell hS1.frozen
        obtain ⟨W2, hW2⟩ : ∃ W2, W2 = (W1.drew.setCell ⟨B, 12, none⟩ (.int .u32 (bit x1))).drew := ⟨_, rfl⟩
        have e0 : W2.cell? ⟨wr.heap.size, 0, none⟩ = some (.string r1) := by rw [hW2]; exact (World.cell?_setCell_other _ _ _ _ (by simp)).trans p0
        have e1 : W2.cell? ⟨wr.heap.size, 1, none⟩ = some (.string n1) := by rw [hW2]; exact (World.cell?_setCell_other _ _ _ _ (by simp)).trans p1
        have hF2 : Fr (fun _ => False) wr W2 := by rw [hW2]; exact (hFW.drew.setCell (.inr (by simp; omega)) _).drew
        have hS2 : Src W2 B (X k) := by
          rw [← Hx.out.2, hW2]
          exact src_set (hS1.of_heap (w' := W1.drew) rfl) x1
        obtain ⟨w', hup, hM', hT'⟩ := run_store keys52 Ybaz.underlying74 W2 mb L (r1, n1) (.pointer (some ⟨B, 0, none⟩)) (h1.mp.of_heap (hF2.block mb h1.mp.lt (fun h => h)))
        have hup' : (Instr.mapUpdate 74 (.map (some mb)) (.agg #[.string r1, .string n1]) (.pointer (some ⟨B, 0, none⟩))).run Ybaz.prog W2 = .ok () w' := hup
        have hm4 := m1_step h1 hlt (by omega) (by omega) (by omega) (by omega) hF2 hS2 hM' hT'
        obtain ⟨v0, hv0⟩ := h1.at_ k hlt
        have t1 : w'.cell? ⟨mb + 1, k, none⟩ = some v0 := (hT'.cell _).trans ((hF2.cell (p := ⟨mb + 1, k, none⟩) (by simp; omega) (fun h => h)).trans hv0)
        have t2 : w'.frozen? ⟨mb + 1, k, none⟩ = false := (hT'.frozen _).trans ((hF2.frozen (p := ⟨mb + 1, k, none⟩) (by simp; omega) (fun h => h)).trans (h1.fz k))
        have Hm4 := Lib.hid hm4
        have Hst := Lib.hid hst
        have HW2 := Lib.hid hW2
        clear hm4 hst hW2 hM' hT' hup h1 hS2 hS1 hW1 hW1' pa hB hv0
        go_region_with (go_at_call 6; refine (Hst.out).mono ?_; rintro e w'' ⟨rfl, rfl⟩; rw [← HW2.out])
        all_goals
          go_wp2_with fail
          go_roundw
          case rel => exact ⟨k + 1, _, _, by omega, by go_num, Hm4.out⟩
          case measure => simp [intOf]; omega
      · have hkl : k = len := by omega
        subst hkl
        clear ce fe hM3 hmm
        go_wp2_with fail
        obtain ⟨W5, hW5⟩ : ∃ W5, W5 = wr.alloc (.cells (madeCells #[.bool false] k) 4) := ⟨_, rfl⟩
        rw [← hW5]
        obtain ⟨ub, hub⟩ : ∃ ub, ub = wr.heap.size := ⟨_, rfl⟩
        rw [← hub]
        have hF5 : Fr (fun _ => False) wr W5 := by rw [hW5]; exact (Fr.refl _ _).alloc _
        have z5 : W5.heap.size = ub + 1 := by rw [hW5, hub]; simp
        have cu : ∀ j, j < k → W5.cell? ⟨ub, j, none⟩ = some (.bool false) := fun j hj => by
          rw [hW5, hub, World.cell?_alloc_new]; simp [madeCells, hj, Nat.mod_one]
        have fu : ∀ o, W5.frozen? ⟨ub, o, none⟩ = false := fun o => by rw [hW5, hub]; simp
        have hm5 : MapAt enc W5 mb L := h1.mp.of_heap (hF5.block mb h1.mp.lt (fun h => h))
        have hp5 : ∀ j, j < k → W5.cell? ⟨mb + 1, j, none⟩ = some (.pointer (some ⟨Bs j, 0, none⟩)) := fun j hj => (hF5.cell (p := ⟨mb + 1, j, none⟩) (by simp; omega) (fun h => h)).trans (h1.ptr j hj)
        have hs5 : ∀ j, j < k → Src W5 (Bs j) (X j) := fun j hj => (h1.src j hj).fr hF5 (fun h => h)
        have hbl : ∀ j, j < k → Bs j < ub ∧ mb + 2 ≤ Bs j := fun j hj => by
          have e1 := (h1.src j hj).lt
          have e2 := h1.new j hj
          omega
        have hvals := h1.vals
        have hinj := h1.inj
        have hF05 : Fr (fun _ => False) w0 W5 := (hF3.trans h1.fr (fun i hi h => by omega)).trans hF5 (fun _ _ h => h)
        have hubm : mb + 2 ≤ ub := by omega
        have H1 := Lib.hid (And.intro hm5 (And.intro hvals (And.intro hinj (And.intro hbl hF05))))
        clear h1 hW5 hub hm5 hvals hinj hF05 hF3 hF5 hwr hm2
        go_loopw [88] (fun i w6 => ∃ j : Nat, j ≤ k ∧ i = .int .i64 j ∧ M2 W5 w6 ub k j X) (fun i _ => k - (intOf i).toNat)
        case atStart => exact ⟨0, Nat.zero_le _, rfl, fun j hj => ⟨_, cu j hj⟩, fun j hj => by omega, fu, Fr.refl _ _⟩
        case round =>
          obtain ⟨j, hj, rfl, h2⟩ := hrel
          have hsz2 := h2.fr.size
          by_cases hlt2 : j < k
          · obtain ⟨e1, e2⟩ := hbl j hlt2
            have q1 : wr.cell? ⟨mb + 1, j, none⟩ = some (.pointer (some ⟨Bs j, 0, none⟩)) := (h2.fr.cell (p := ⟨mb + 1, j, none⟩) (by simp; omega) (by simp; omega)).trans (hp5 j hlt2)
            have hsj : Src wr (Bs j) (X j) := (hs5 j hlt2).fr h2.fr (by omega)
            have hld := load_any (Bs j) (X j) wr hsj.cell
            obtain ⟨v0, hv0⟩ := h2.at_ j hlt2
            have hfz := h2.fz j
            have H2 := Lib.hid (m2_step h2 hlt2)
            have Hld := Lib.hid hld
            have H5 := Lib.hid (And.intro hp5 (And.intro hs5 hbl))
            clear h2 hld hsj hp5 hs5 hbl cu fu
            go_wp2_with (go_at_call 7; refine (Hld.out).mono ?_; rintro e w'' ⟨rfl, rfl⟩)
            go_roundw
            case rel => exact ⟨j + 1, by omega, by go_num, H2.out⟩
            case measure => simp [intOf]; omega
          · have hjk : j = k := by omega
            subst hjk
            have hF6 := H1.out.2.2.2.2.trans h2.fr (fun i hi h => by have := H1.out.2.2.2.2.size; omega)
            clear cu fu
            have hmc : ∀ W : World, (Instr.makeChan 75 (.int .i64 1)).run Ybaz.prog W = .ok (.chan (some W.heap.size)) (W.alloc (.chan 1 #[] false 0 0 false)) := fun W => make75 W
            go_upto_if 102 with fail
            obtain ⟨W6, hW6⟩ : ∃ W6, W6 = wr.alloc (.chan 1 #[] false 0 0 false) := ⟨_, rfl⟩
            rw [← hW6]
            obtain ⟨cb, hcb⟩ : ∃ cb, cb = wr.heap.size := ⟨_, rfl⟩
            rw [← hcb]
            have hFW : Fr (fun _ => False) wr W6 := by rw [hW6]; exact (Fr.refl _ _).alloc _
            have z6 : W6.heap.size = cb + 1 := by rw [hW6, hcb]; simp
            have hc6 : W6.heap[cb]? = some (.chan 1 #[] false 0 0 false) := by rw [hW6, hcb]; show (wr.heap.push _)[wr.heap.size]? = _; simp
            have hF06 : Fr (fun _ => False) w0 W6 := hF6.trans hFW (fun _ _ h => h)
            have hu6 : ∀ i, i < j → W6.cell? ⟨ub, i, none⟩ = some (.bool (X i)) := fun i hi => (hFW.cell (p := ⟨ub, i, none⟩) (by simp; omega) (fun h => h)).trans (h2.done i hi)
            have hp6 : ∀ i, i < j → W6.cell? ⟨mb + 1, i, none⟩ = some (.pointer (some ⟨Bs i, 0, none⟩)) := fun i hi => (hFW.cell (p := ⟨mb + 1, i, none⟩) (by simp; omega) (fun h => h)).trans ((h2.fr.cell (p := ⟨mb + 1, i, none⟩) (by simp; omega) (by simp; omega)).trans (hp5 i hi))
            have hs6 : ∀ i, i < j → Src W6 (Bs i) (X i) := fun i hi => ((hs5 i hi).fr h2.fr (by have := hbl i hi; omega)).fr hFW (fun h => h)
            have hm6 : MapAt enc W6 mb L := (H1.out.1.of_heap (h2.fr.block mb H1.out.1.lt (by omega))).of_heap (hFW.block mb (by have := H1.out.1.lt; omega) (fun h => h))
            have hcbu : ub < cb := by omega
            have H6 := Lib.hid (And.intro hc6 (And.intro hu6 (And.intro hp6 (And.intro hs6 (And.intro hm6 (And.intro H1.out.2.1 (And.intro H1.out.2.2.1 (And.intro hbl hF06))))))))
            clear hW6 hcb hc6 hF06 hu6 hp6 hs6 hm6 hFW h2 H1 hp5 hs5 hbl hmc hF6
            go_cut [] (fun w7 => ChanIs w7 cb (if full then 1 else 0) ∧ Fr (fun i => i = cb) W6 w7)
            case first =>
              cases full with
              | false =>
                go_wp2_with fail
                go_meet
                case rel => exact ⟨⟨_, _, _, H6.out.1, rfl⟩, Fr.refl _ _⟩
              | true =>
                go_upto_region 25 with fail
                refine wp_inReg (inReg_same (v := .chan (some cb)) rfl (by kernel_rfl) (by kernel_rfl) ?_)
                refine inReg_same (v := .agg #[]) rfl (by kernel_rfl) (by kernel_rfl) ?_
                refine inReg_comm (cases := #[Conc.scase cb (.agg #[]) undef]) (blocking := true) (shape := .send) (w₁ := W6) (v := undef) rfl (by kernel_rfl) (by kernel_rfl) (fun fr cs es h => Conc.step_lone_send_room h H6.out.1 (by decide)) ?_
                refine inReg_nil ?_
                go_simp
                go_wp2_with fail
                go_meet
                case rel => exact ⟨⟨_, _, _, Conc.heap_setChan _ _ _ _ _ _ _ _ (by omega), rfl⟩, (Fr.refl (fun i => i = cb) _).setChan (.inl rfl)⟩
            case rest =>
              obtain ⟨hC7, hF7⟩ := hcut
              rename World => W7
              have z7 := hF7.size
              go_upto_region 29 with fail
              obtain ⟨sc, hsc⟩ : ∃ sc : Array Value, sc = #[.int .i64 0, .int .i64 0, .int .i64 0, .pointer none, .pointer none, .pointer none, .int .i32 0, .int .u32 0, .nilFunc, .int .i64 0, .int .i64 0, .int .i32 0, .int .u32 0, .slice none 0 0, .int .i32 0, .int .u32 0, .map none, .slice none 0 0, .int .i64 0, .string ⟨#[]⟩, .int .i64 0, .pointer none, .pointer none, .int .i64 0, .int .i32 0, .int .u32 0, .map (some mb), .chan (some cb)] := ⟨_, rfl⟩
              rw [← hsc]
              obtain ⟨W8, hW8⟩ : ∃ W8, W8 = W7.alloc (.cells sc 79) := ⟨_, rfl⟩
              rw [← hW8]
              obtain ⟨sb, hsb⟩ : ∃ sb, sb = W7.heap.size := ⟨_, rfl⟩
              rw [← hsb]
              have hF8 : Fr (fun _ => False) W7 W8 := by rw [hW8]; exact (Fr.refl _ _).alloc _
              have z8 : W8.heap.size = sb + 1 := by rw [hW8, hsb]; simp
              have cs : ∀ o, W8.cell? ⟨sb, o, none⟩ = sc[o]? := fun o => by rw [hW8, hsb]; exact World.cell?_alloc_new _ _ _ _
              have fs : ∀ o, W8.frozen? ⟨sb, o, none⟩ = false := fun o => by rw [hW8, hsb]; simp
              have hF68 : Fr (fun i => i = cb) W6 W8 := hF7.trans hF8 (fun _ _ h => h.elim)
              have hC8 : ChanIs W8 cb (if full then 1 else 0) := hC7.fr hF8 (fun h => h)
              have hs8 : ∀ i, i < j → Src W8 (Bs i) (X i) := fun i hi => (H6.out.2.2.2.1 i hi).fr hF68 (by have := H6.out.2.2.2.2.2.2.2.1 i hi; omega)
              have hu8 : ∀ i, i < j → W8.cell? ⟨ub, i, none⟩ = some (.bool (X i)) := fun i hi => (hF68.cell (p := ⟨ub, i, none⟩) (by simp; omega) (by simp; omega)).trans (H6.out.2.1 i hi)
              have hp8 : ∀ i, i < j → W8.cell? ⟨mb + 1, i, none⟩ = some (.pointer (some ⟨Bs i, 0, none⟩)) := fun i hi => (hF68.cell (p := ⟨mb + 1, i, none⟩) (by simp; omega) (by simp; omega)).trans (H6.out.2.2.1 i hi)
              have hm8 : MapAt enc W8 mb L := H6.out.2.2.2.2.1.of_heap (hF68.block mb (by omega) (by omega))
              have hbl := H6.out.2.2.2.2.2.2.2.1
              have hF08 : Fr (fun _ => False) w0 W8 := H6.out.2.2.2.2.2.2.2.2.trans hF68 (fun i hi h => by omega)
              have hlk := run_look keys52 Ybaz.underlying74 z91 W8 mb L (r', nm') hm8 false
              obtain ⟨W9, hW9⟩ : ∃ W9, W9 = W8.alloc (.cells #[.string nm', .string r', .string ⟨#[]⟩, .string ⟨#[]⟩, .slice none 0 0, .slice none 0 0] 85) := ⟨_, rfl⟩
              have hF9 : Fr (fun _ => False) W8 W9 := by rw [hW9]; exact (Fr.refl _ _).alloc _
              have z9 : W9.heap.size = sb + 2 := by rw [hW9]; simp [z8]
              have ob0 : W9.cell? ⟨sb + 1, 0, none⟩ = some (.string nm') := by rw [hW9, ← z8]; exact World.cell?_alloc_new _ _ _ _
              have ob1 : W9.cell? ⟨sb + 1, 1, none⟩ = some (.string r') := by rw [hW9, ← z8]; exact World.cell?_alloc_new _ _ _ _
              have hsbc : cb < sb := by omega
              have sbl : sb < W8.heap.size := by omega
              have hun : ∀ (tgt : Option Nat) (x : Bool), get L (r', nm') = tgt.map (fun b => .pointer (some ⟨b, 0, none⟩)) → (∀ b, tgt = some b → ∃ i, i < j ∧ b = Bs i ∧ x = X i) →
                  Calls Ybaz.prog 5 #[.pointer (some ⟨sb, 0, none⟩), .pointer (some ⟨sb + 1, 0, none⟩)] W9 fun e w' => e = .returned (.tuple #[]) ∧ Issued W9 w' sb cb tgt (woken tgt x (if full then 1 else 0)) := fun tgt x hg hb =>
                unknown_issuer sb mb cb (sb + 1) _ tgt x r' nm' L W9 ((hF9.cell (p := ⟨sb, 21, none⟩) sbl (fun h => h)).trans (by rw [cs, hsc]; rfl)) ob0 ob1 ((hF9.cell (p := ⟨sb, 24, none⟩) sbl (fun h => h)).trans (by rw [cs, hsc]; rfl)) ((hF9.frozen (p := ⟨sb, 24, none⟩) sbl (fun h => h)).trans (fs 24))
                  ((hF9.cell (p := ⟨sb, 26, none⟩) sbl (fun h => h)).trans (by rw [cs, hsc]; rfl)) ((hF9.cell (p := ⟨sb, 27, none⟩) sbl (fun h => h)).trans (by rw [cs, hsc]; rfl)) (hC8.fr hF9 (fun h => h)) (by split <;> omega)
                  (fun b h => by obtain ⟨i, hi, rfl, rfl⟩ := hb b h; exact ⟨(hs8 i hi).fr hF9 (fun h => h), by have := hbl i hi; omega⟩) (hm8.of_heap (hF9.block mb hm8.lt (fun h => h))) hg
              have HK := Lib.hid (And.intro hun (And.intro hs8 (And.intro hu8 (And.intro hp8 (And.intro hbl (And.intro hF08 hF9))))))
              have HW9 := Lib.hid hW9
              clear hun hs8 hu8 hp8 hm8 hF08 hF9 hF8 cs fs hsc hW8 hsb hC8 hF68 hF7 hC7 ob0 ob1 hW9 z7
              cases hg : get L (r', nm') with
              | none =>
                rw [hg] at hlk
                have hlk' : (Instr.lookup 74 (.map (some mb)) (.agg #[.string r', .string nm']) false).run Ybaz.prog W8 = .ok (.pointer none) W8 := hlk
                have hcall := HK.out.1 none false hg (fun b h => by cases h)
                have Hcall := Lib.hid hcall
                have Hz8 := Lib.hid z8
                clear hlk hcall hg z8 z9
                go_wp2_with fail
                rw [← HW9.out, Hz8.out]
                refine (Hcall.out).mono ?_
                rintro e W10 ⟨rfl, hI⟩
                have hT := tail_of HK.out.2.1 HK.out.2.2.1 HK.out.2.2.2.1 HK.out.2.2.2.2.1 HK.out.2.2.2.2.2.1 HK.out.2.2.2.2.2.2 hI hwz hubm hcbu hsbc sbl (fun b h => by cases h)
                have hcl : ∀ ty, (Builtin.len_ #[75] ty #[.chan (some cb)]).run Ybaz.prog W10 = .ok (.int .i64 ((if full then 1 else 0 : Nat) : Nat)) W10 := fun ty => chan_len hI.ch ty
                clear hI hlk' Hcall HW9 HK H6 Hz8
                cases full
                all_goals
                  go_wp2_with fail
                  go_loopw [161] (fun i wr => ∃ k : Nat, k ≤ j ∧ i = .int .i64 k ∧ Tail w0 wr mb ub j X Bs none) (fun i _ => j - (intOf i).toNat)
                  case atStart => exact ⟨0, Nat.zero_le _, rfl, hT⟩
                  case round =>
                    obtain ⟨k, hk, rfl, h3⟩ := hrel
                    clear hT
                    by_cases hlt : k < j
                    · have q1 := h3.ptr k hlt
                      have q2 := h3.un k hlt
                      have hld := fun n => load_any (Bs k) (X k) (wr.drewN n) (h3.src k hlt (fun h => by cases h)).cell
                      have H3 := Lib.hid h3
                      have Hld := Lib.hid hld
                      clear h3 hld
                      go_wp2_with fail
                      go_quiet ((go_at_call 7; exact Calls.quiet_of_same (Hld.out _)))
                      go_wp2_with fail
                      go_roundw
                      case rel => exact ⟨k + 1, by omega, by go_num, H3.out.drewN _⟩
                      case measure => simp [intOf]; omega
                    · go_wp2_with fail
                      go_ret
                      exact ⟨rfl, h3.fr.below (fun _ _ h => h)⟩
              | some v =>
                obtain ⟨i, hi, rfl⟩ := H6.out.2.2.2.2.2.1 _ _ hg
                rw [hg] at hlk
                have hlk' : (Instr.lookup 74 (.map (some mb)) (.agg #[.string r', .string nm']) false).run Ybaz.prog W8 = .ok (.pointer (some ⟨Bs i, 0, none⟩)) W8 := hlk
                have hcall := HK.out.1 (some (Bs i)) (X i) hg (fun b h => ⟨i, hi, (Option.some.inj h).symm, rfl⟩)
                have Hcall := Lib.hid hcall
                have hld := load_any (Bs i) (X i) W8 (HK.out.2.1 i hi).cell
                have Hld := Lib.hid hld
                have Hz8 := Lib.hid z8
                clear hlk hcall hg z8 z9 hld
                go_wp2_with (go_at_call 7; refine (Hld.out).mono ?_; rintro e w'' ⟨rfl, rfl⟩)
                rw [← HW9.out, Hz8.out]
                refine (Hcall.out).mono ?_
                rintro e W10 ⟨rfl, hI⟩
                have hT := tail_of HK.out.2.1 HK.out.2.2.1 HK.out.2.2.2.1 HK.out.2.2.2.2.1 HK.out.2.2.2.2.2.1 HK.out.2.2.2.2.2.2 hI hwz hubm hcbu hsbc sbl (fun b h => ⟨i, hi, (Option.some.inj h).symm⟩)
                have hch := hI.ch
                have hld2 := load_any (Bs i) true W10 (hI.tg _ rfl).cell
                clear hI hlk' Hcall HW9 HK H6 Hz8 Hld
                obtain ⟨x, hx⟩ : ∃ x, x = X i := ⟨_, rfl⟩
                obtain ⟨bi, hbi⟩ : ∃ bi, bi = Bs i := ⟨_, rfl⟩
                rw [← hbi] at hT hld2 hch ⊢
                rw [← hx] at hch ⊢
                clear hx hbi
                have Hld2 := Lib.hid hld2
                have Hch := Lib.hid hch
                clear hch hld2
                cases full <;> cases x
                all_goals
                  have hcl : ∀ ty, _ := fun ty => chan_len Hch.out ty
                  simp only [woken, Option.isSome_some, Bool.true_and, Bool.not_false, Bool.not_true, if_true, if_false, Bool.false_eq_true, Bool.and_self] at hcl
                  clear Hch
                  go_wp2_with (go_at_call 7; refine (Hld2.out).mono ?_; rintro e w'' ⟨rfl, rfl⟩)
                  go_loopw [161] (fun i wr => ∃ k : Nat, k ≤ j ∧ i = .int .i64 k ∧ Tail w0 wr mb ub j X Bs (some bi)) (fun i _ => j - (intOf i).toNat)
                  case atStart => exact ⟨0, Nat.zero_le _, rfl, hT⟩
                  case round =>
                    obtain ⟨k, hk, rfl, h3⟩ := hrel
                    clear hT
                    by_cases hlt : k < j
                    · have q1 := h3.ptr k hlt
                      have q2 := h3.un k hlt
                      by_cases hbk : Bs k = bi
                      · rw [hbk] at q1
                        have hE := eq91_same bi wr
                        have H3 := Lib.hid h3
                        clear h3 hbk
                        go_wp2_with fail
                        go_roundw
                        case rel => exact ⟨k + 1, by omega, by go_num, H3.out⟩
                        case measure => simp [intOf]; omega
                      · have hsk := h3.src k hlt (fun h => hbk (Option.some.inj h).symm)
                        have hE := eq91_other hsk (h3.tg _ rfl) hbk
                        have hld := fun n => load_any (Bs k) (X k) (wr.drewN n) hsk.cell
                        have H3 := Lib.hid h3
                        have Hld := Lib.hid hld
                        clear h3 hld hsk hbk
                        go_wp2_with fail
                        go_quiet ((go_at_call 7; exact Calls.quiet_of_same (Hld.out _)))
                        go_wp2_with fail
                        go_roundw
                        case rel => exact ⟨k + 1, by omega, by go_num, H3.out.drewN _⟩
                        case measure => simp [intOf]; omega
                    · go_wp2_with fail
                      go_ret
                      exact ⟨rfl, h3.fr.below (fun _ _ h => h)⟩
end Go.Proofs.YbulkbseuGreat.AM
