import Derived.Test.YbulkbseuGreatUnknown
import Derived.Laws.MakeOwn
import Derived.Laws.Tables
import Derived.Deep.LoopGhost
import Derived.Deep.DeepCutAuto
namespace Go.Proofs.YbulkbseuGreat.AM
open Go Go.MapKept Go.RowKit Go.MuLone
set_option linter.unusedVariables false

/-- 'Op.build', its cells told by a closed fact. -/
theorem wp_built {P : Program} {o : Oper} {a : Act} {w : World} {K : Act → World → Prop} {Q : Exit → Act → World → Prop} (t : TypeId) (parts : Array (Nat × Operand)) (cells : Array Value) (ho : o.op = .build t parts)
    (hc : P.built t (parts.map fun (i, x) => (i, a.eval x)).toList = some cells) (h : K (a.put o.dst (.agg cells)) w) : o.wp P a w K Q :=
  wp_build t parts ho (by rw [hc]; rfl) (by rw [hc]; exact h)

theorem zone_cells : ∃ cells, Ybaz.prog.built 49 [] = some cells ∧ cells[13]? = some (.int .i32 0) ∧ cells[15]? = some (.map none) ∧ cells[16]? = some (.int .u64 0) :=
  ⟨(Ybaz.prog.built 49 []).getD #[], by kernel_rfl, by kernel_rfl, by kernel_rfl, by kernel_rfl⟩
theorem server_cells (v : Option Addr) : ∃ cells, Ybaz.prog.built 79 [(11, .pointer v)] = some cells ∧ cells[21]? = some (.pointer v) ∧ cells[26]? = some (.map none) :=
  ⟨(Ybaz.prog.built 79 [(11, .pointer v)]).getD #[], by kernel_rfl, by kernel_rfl, by kernel_rfl⟩

theorem info23 : (Ybaz.prog.info? 23).map (fun i => (i.zero, i.size, i.bytes)) = some (some (.int .u64 0), 1, 8) := by kernel_rfl
theorem make50 (w : World) (n : Nat) (h : n ≤ 1024) : (Instr.makeSlice 50 (.int .i64 n) (.int .i64 n)).run Ybaz.prog w = .ok (.slice (some ⟨w.heap.size, 0, none⟩) n n) (w.alloc (.cells (madeCells #[.int .u64 0] n) 23)) := by
  obtain ⟨i, hi, hz0, hz1, hz2⟩ := info_parts info23
  have := run_make (P := Ybaz.prog) w 50 23 i (.int .u64 0) Ybaz.underlying50 hi hz0 .i64 .i64 n n (by omega) (by omega) (by rw [hz2]; omega) (by omega)
  rw [this]
  simp [hz1, Value.cells]

/-- The prior names, as they lie. -/
def Prior (B : Nat) (w : World) (a : Option Addr) (len : Nat) (P : Nat → ByteArray × ByteArray) : Prop :=
  len = 0 ∨ ∃ b off, a = some ⟨b, off, none⟩ ∧ b < B ∧ ∀ j, j < len → w.cell? ⟨b, off + j * 2, none⟩ = some (.string (P j).1) ∧ w.cell? ⟨b, off + j * 2 + 1, none⟩ = some (.string (P j).2)


theorem Prior.fr {S : Nat → Prop} {B B' : Nat} {w w' : World} {a : Option Addr} {len : Nat} {P : Nat → ByteArray × ByteArray} (h : Prior B w a len P) (hF : Fr S w w') (hB : B ≤ w.heap.size) (hs : ∀ i, i < B → ¬ S i) (hB' : B ≤ B') : Prior B' w' a len P := by
  rcases h with h | ⟨b, off, e, hb, hc⟩
  · exact .inl h
  · have hb' : b < w.heap.size := Nat.lt_of_lt_of_le hb hB
    exact .inr ⟨b, off, e, Nat.lt_of_lt_of_le hb hB', fun j hj => ⟨(hF.cell (p := ⟨b, off + j * 2, none⟩) hb' (hs b hb)).trans (hc j hj).1, (hF.cell (p := ⟨b, off + j * 2 + 1, none⟩) hb' (hs b hb)).trans (hc j hj).2⟩⟩

theorem Held.fr {S : Nat → Prop} {w w' : World} {m : Option Nat} {L : List ((ByteArray × ByteArray) × Value)} (h : Held w m L) (hF : Fr S w w') (hs : ∀ mb, m = some mb → ¬ S mb) : Held w' m L := by
  rcases h with h | ⟨mb, e, h⟩
  · exact .inl h
  · exact .inr ⟨mb, e, h.of_heap (hF.block mb h.lt (hs mb e))⟩

theorem held_len {w : World} {m : Option Nat} {L : List ((ByteArray × ByteArray) × Value)} (ty : TypeId) (h : Held w m L) : (Builtin.len_ #[45] ty #[.map m]).run Ybaz.prog w = .ok (.int .i64 L.length) w := by
  rcases h with ⟨rfl, rfl⟩ | ⟨mb, rfl, h⟩
  · simp [Builtin.len_, run_underlying Ybaz.underlying45, goInt]
  · exact run_len Ybaz.underlying45 ty w mb L h

theorem held_look {w : World} {m : Option Nat} {L : List ((ByteArray × ByteArray) × Value)} (h : Held w m L) (k : ByteArray × ByteArray) :
    (Instr.lookup 45 (.map m) (.agg #[.string k.1, .string k.2]) true).run Ybaz.prog w = .ok (.tuple #[(get L k).getD (.int .u64 0), .bool (get L k).isSome]) w := by
  rcases h with ⟨rfl, rfl⟩ | ⟨mb, rfl, h⟩
  · exact run_look_nil keys52 Ybaz.underlying45 z23 w k true
  · exact run_look keys52 Ybaz.underlying45 z23 w mb L k h true

theorem get_grow {L : List ((ByteArray × ByteArray) × Value)} {k x : ByteArray × ByteArray} {n : Int} {v : Value} (h : get L x = some v) : get (grow L k n) x = some v := by
  unfold grow
  by_cases c : (get L k).isSome = true
  · rw [if_pos c]; exact h
  · rw [if_neg c, get_put]
    by_cases e : x = k
    · rw [e] at h; rw [h] at c; simp at c
    · rw [if_neg e]; exact h

/-- Every place that the map holds is a number. -/
def AllInt (L : List ((ByteArray × ByteArray) × Value)) : Prop := ∀ k v, get L k = some v → ∃ e, v = .int .u64 e

theorem allInt_nil : AllInt [] := fun k v h => by simp [get] at h
theorem AllInt.put {L : List ((ByteArray × ByteArray) × Value)} (h : AllInt L) (k : ByteArray × ByteArray) (e : Int) : AllInt (put L k (.int .u64 e)) := by
  intro k' v hv
  rw [get_put] at hv
  by_cases c : k' = k
  · rw [if_pos c] at hv; exact ⟨e, by simpa using hv.symm⟩
  · rw [if_neg c] at hv; exact h k' v hv

/-- Behind k rounds of the first loop. -/
structure L1 (W3 wr : World) (mb k : Nat) (P : Nat → ByteArray × ByteArray) (L : List ((ByteArray × ByteArray) × Value)) : Prop where
  mp : MapAt enc wr mb L
  ints : AllInt L
  len : L.length ≤ k
  has : ∀ j, j < k → (get L (P j)).isSome = true
  fr : Fr (fun _ => False) W3 wr

theorem l1_has {W3 wr : World} {mb k : Nat} {P : Nat → ByteArray × ByteArray} {L : List ((ByteArray × ByteArray) × Value)} (h : L1 W3 wr mb k P L) (hg : (get L (P k)).isSome = true) (o1 o2 : Obj) :
    L1 W3 ((wr.alloc o1).alloc o2) mb (k + 1) P L where
  mp := h.mp.of_heap ((Below.heap_alloc _ _ _ (by have := h.mp.lt; simp; omega)).trans (Below.heap_alloc _ _ _ h.mp.lt))
  ints := h.ints
  len := by have := h.len; omega
  has := fun j hj => by
    by_cases e : j = k
    · rw [e]; exact hg
    · exact h.has j (by omega)
  fr := (h.fr.alloc _).alloc _

theorem l1_new {W3 wr w' : World} {mb k : Nat} {P : Nat → ByteArray × ByteArray} {L : List ((ByteArray × ByteArray) × Value)} (h : L1 W3 wr mb k P L) (hmb : W3.heap.size ≤ mb) (hg : get L (P k) = none) (n : Int) (o1 o2 : Obj)
    (hM : MapAt enc w' mb (put L (P k) (.int .u64 n))) (hT : Turn ((wr.alloc o1).alloc o2) w' mb) :
    L1 W3 w' mb (k + 1) P (put L (P k) (.int .u64 n)) where
  mp := hM
  ints := h.ints.put _ _
  len := by
    have := h.len
    rw [length_put, hg]
    simp; omega
  has := fun j hj => by
    rw [get_put]
    by_cases c : P j = P k
    · rw [if_pos c]; rfl
    · rw [if_neg c]
      exact h.has j (by
        by_cases e : j = k
        · exact absurd (by rw [e]) c
        · omega)
  fr := ((h.fr.alloc _).alloc _).turn hT (.inr hmb)

/-- Behind k rounds of the second loop. -/
structure L2 (W3 wr : World) (mb eb len k : Nat) (P : Nat → ByteArray × ByteArray) (L : List ((ByteArray × ByteArray) × Value)) : Prop where
  mp : MapAt enc wr mb L
  at_ : ∀ j, j < len → ∃ v, wr.cell? ⟨eb, j, none⟩ = some v
  done : ∀ j, j < k → ∃ e, get L (P j) = some (.int .u64 e) ∧ wr.cell? ⟨eb, j, none⟩ = some (.int .u64 e)
  fz : ∀ j, wr.frozen? ⟨eb, j, none⟩ = false
  fr : Fr (fun i => i = eb) W3 wr

theorem l2_step {W3 wr : World} {mb eb len k : Nat} {P : Nat → ByteArray × ByteArray} {L : List ((ByteArray × ByteArray) × Value)} (h : L2 W3 wr mb eb len k P L) (hk : k < len) (hne : eb ≠ mb) (heb : eb < wr.heap.size) {e : Int} (hg : get L (P k) = some (.int .u64 e)) (o1 : Obj) :
    L2 W3 ((wr.setCell ⟨eb, k, none⟩ (.int .u64 e)).alloc o1) mb eb len (k + 1) P L := by
  obtain ⟨v, hv⟩ := h.at_ k hk
  have hc : ∀ j, ((wr.setCell ⟨eb, k, none⟩ (.int .u64 e)).alloc o1).cell? ⟨eb, j, none⟩ = (wr.setCell ⟨eb, k, none⟩ (.int .u64 e)).cell? ⟨eb, j, none⟩ := fun j => World.cell?_alloc_lt _ _ _ (by simpa using heb)
  have hs : (wr.setCell ⟨eb, k, none⟩ (.int .u64 e)).cell? ⟨eb, k, none⟩ = some (.int .u64 e) := World.cell?_setCell_same _ _ _ hv
  have ho : ∀ j, j ≠ k → (wr.setCell ⟨eb, k, none⟩ (.int .u64 e)).cell? ⟨eb, j, none⟩ = wr.cell? ⟨eb, j, none⟩ := fun j hj => World.cell?_setCell_other _ _ _ _ (by simp)
  refine ⟨?_, fun j hj => ?_, fun j hj => ?_, fun j => ?_, ?_⟩
  · have hlt := h.mp.lt
    exact h.mp.of_heap ((Below.heap_alloc _ _ _ (by simpa using hlt)).trans (Below.heap_setCell _ _ _ _ (fun x => hne x.symm)))
  · by_cases c : j = k
    · subst c; exact ⟨_, (hc j).trans hs⟩
    · obtain ⟨u, hu⟩ := h.at_ j hj
      exact ⟨u, (hc j).trans ((ho j c).trans hu)⟩
  · by_cases c : j = k
    · subst c; exact ⟨e, hg, (hc j).trans hs⟩
    · obtain ⟨u, hu1, hu2⟩ := h.done j (by omega)
      exact ⟨u, hu1, (hc j).trans ((ho j c).trans hu2)⟩
  · rw [World.frozen?_of_block (w := wr.setCell ⟨eb, k, none⟩ (.int .u64 e)) (Below.heap_alloc _ _ _ (by simpa using heb)), World.frozen?_setCell]
    exact h.fz j
  · exact (h.fr.setCell (.inl rfl) _).alloc _

set_option maxRecDepth 100000 in
set_option maxHeartbeats 1000000 in
theorem zone_in (r nm : ByteArray) (a : Option Addr) (len cap : Nat) (P : Nat → ByteArray × ByteArray) (start pick : Int) (w : World) (hl : len ≤ 1024) (bp : 0 ≤ pick ∧ pick ≤ 255) (bs : 0 ≤ start ∧ start ≤ 18446744073709551615)
    (hP : Prior w.heap.size w a len P) :
    Calls Ybaz.prog 3 #[.string r, .string nm, .slice a len cap, .int .u64 start, .int .u8 pick] w fun e w' => e = .returned (.bool true) ∧ Below w.heap.size w w' := by
  have d1 : decide ((1024 : Int) < len) = false := by simp; omega
  have hm1 := fun W => make50 W len hl
  go_enter Ybaz.func3, Ybaz.ntmps3
  go_upto_region 3 with fail
  go_cut [44] (fun s w1 => ∃ b : Bool, s = .bool b ∧ (b = true → 0 < len) ∧ w1 = w)
  case first =>
    go_wp2_with fail
    all_goals go_meet
    · case rel => exact ⟨_, rfl, fun _ => by omega, rfl⟩
    · case rel => exact ⟨_, rfl, fun h => by simp at h, rfl⟩
  case rest =>
  obtain ⟨b, rfl, hb, rfl⟩ := hcut
  rename World => w0
  go_upto_if 44 with fail
  go_cut [0, 1, 11] (fun s0 s1 _ w1 => ∃ r' nm', s0 = .string r' ∧ s1 = .string nm' ∧ Fr (fun _ => False) w0 w1)
  case first =>
    cases b with
    | false =>
      go_wp2_with fail
      go_meet
      case rel => exact ⟨r, nm, rfl, rfl, Fr.refl _ _⟩
    | true =>
      have hpos := hb rfl
      rcases hP with h0 | ⟨b, off, rfl, hbw, hc⟩
      · omega
      have hix : 0 ≤ pick / 2 % (len : Int) ∧ pick / 2 % (len : Int) < len := ⟨Int.emod_nonneg _ (by omega), Int.emod_lt_of_pos _ (by omega)⟩
      obtain ⟨q1, q2⟩ := hc (pick / 2 % (len : Int)).toNat (by omega)
      clear hc
      go_wp2_with fail
      go_meet
      case rel => exact ⟨_, _, rfl, rfl, (Fr.refl _ _).alloc _⟩
  case rest =>
    obtain ⟨r', nm', rfl, rfl, hF1⟩ := hcut
    have hP1 := hP.fr hF1 (Nat.le_refl _) (fun _ _ h => h) hF1.size
    clear hP hb
    go_upto_if 66 with fail
    obtain ⟨zc, hzc⟩ : ∃ zc : Array Value, zc = #[.string ⟨#[]⟩, .string ⟨#[]⟩, .pointer none, .string ⟨#[]⟩, .pointer none, .pointer none, .pointer none, .int .i64 0, .int .i64 0, .bool false, .bool false, .bool false, .bool false, .int .i32 0, .int .u32 0, .map none, .int .u64 0] := ⟨_, rfl⟩
    rw [← hzc]
    obtain ⟨W3, hW3⟩ : ∃ W3, W3 = (wc.alloc (.cells zc 49)).alloc (.cells (madeCells #[.int .u64 0] len) 23) := ⟨_, rfl⟩
    rw [← hW3]
    obtain ⟨zb, hzb⟩ : ∃ zb, zb = wc.heap.size := ⟨_, rfl⟩
    rw [← hzb]
    have z3 : W3.heap.size = zb + 2 := by rw [hW3, hzb]; simp
    have hF3 : Fr (fun _ => False) w0 W3 := by rw [hW3]; exact (hF1.alloc _).alloc _
    have hP3 : Prior zb W3 a len P := by
      rw [hzb]
      exact hP1.fr (w' := W3) (S := fun _ => False) (by rw [hW3]; exact ((Fr.refl _ _).alloc _).alloc _) (Nat.le_refl _) (fun _ _ h => h) (Nat.le_refl _)
    have cz : ∀ o, W3.cell? ⟨zb, o, none⟩ = zc[o]? := fun o => by
      rw [hW3, hzb, World.cell?_alloc_lt _ _ _ (by simp)]; exact World.cell?_alloc_new _ _ _ _
    have ce : ∀ j, j < len → W3.cell? ⟨zb + 1, j, none⟩ = some (.int .u64 0) := fun j hj => by
      have := World.cell?_alloc_new (wc.alloc (.cells zc 49)) (madeCells #[.int .u64 0] len) 23 j
      rw [World.size_alloc, ← hzb, ← hW3] at this
      rw [this]; simp [madeCells, hj, Nat.mod_one]
    have fz : ∀ o, W3.frozen? ⟨zb, o, none⟩ = false := fun o => by rw [hW3, hzb]; simp
    have fe : ∀ o, W3.frozen? ⟨zb + 1, o, none⟩ = false := fun o => by rw [hW3, hzb]; simp
    have z13 : W3.cell? ⟨zb, 13, none⟩ = some (.int .i32 0) := by rw [cz, hzc]; rfl
    have z15 : W3.cell? ⟨zb, 15, none⟩ = some (.map none) := by rw [cz, hzc]; rfl
    have z16 : W3.cell? ⟨zb, 16, none⟩ = some (.int .u64 0) := by rw [cz, hzc]; rfl
    have hz3 : zb + 2 ≤ W3.heap.size := by omega
    have hwz : w0.heap.size ≤ zb := by rw [hzb]; exact hF1.size
    clear hzc cz hW3 hzb hP1 hF1 z3 hm1
    go_cut [13, 14] (fun s13 s14 w4 => ∃ m L n, s13 = .map m ∧ s14 = .int .u64 n ∧ Held w4 m L ∧ AllInt L ∧ L.length ≤ 1024 ∧
      (∀ j, j < len → ∃ e, get L (P j) = some (.int .u64 e) ∧ w4.cell? ⟨zb + 1, j, none⟩ = some (.int .u64 e)) ∧ Fr (fun i => i = zb + 1) W3 w4 ∧ (∀ mb, m = some mb → W3.heap.size ≤ mb))
    case first =>
      by_cases hpos : 0 < len
      · have hd : decide (0 < len) = true := by simpa using hpos
        have hmm := @run_makeMap Ybaz.prog
        go_wp2_with fail
        go_loopw [14, 70] (fun t i wr => ∃ (k : Nat) (L : List ((ByteArray × ByteArray) × Value)) (n : Int), k ≤ len ∧ i = .int .i64 k ∧ t = .int .u64 n ∧ L1 W3 wr W3.heap.size k P L) (fun _ i _ => len - (intOf i).toNat)
        case atStart => exact ⟨0, [], start, Nat.zero_le _, rfl, rfl, MapAt.new _, allInt_nil, Nat.le_refl _, fun j hj => by omega, (Fr.refl _ _).alloc _⟩
        case round =>
          obtain ⟨k, L, n, hk, rfl, rfl, h1⟩ := hrel
          have hwr := h1.fr.size
          by_cases hlt : k < len
          · rcases hP3 with h0 | ⟨b, off, rfl, hbw, hc⟩
            · omega
            obtain ⟨x, hx⟩ : ∃ x, x = P k := ⟨_, rfl⟩
            obtain ⟨r1, n1⟩ := x
            have hck := hc k hlt
            rw [← hx] at hck
            have q1 : wr.cell? ⟨b, off + k * 2, none⟩ = some (.string r1) := (h1.fr.cell (p := ⟨b, off + k * 2, none⟩) (by simp; omega) (fun h => h)).trans hck.1
            have q2 : wr.cell? ⟨b, off + k * 2 + 1, none⟩ = some (.string n1) := (h1.fr.cell (p := ⟨b, off + k * 2 + 1, none⟩) (by simp; omega) (fun h => h)).trans hck.2
            have hbr : b < wr.heap.size := by omega
            clear hc hck
            have hm2 : MapAt enc ((wr.alloc (.cells #[.string r1, .string n1] 25)).alloc (.cells #[.string r1, .string n1] 52)) W3.heap.size L :=
              h1.mp.of_heap ((Below.heap_alloc _ _ _ (by have := h1.mp.lt; simp; omega)).trans (Below.heap_alloc _ _ _ h1.mp.lt))
            have hlk := run_look keys52 Ybaz.underlying45 z23 _ _ L (r1, n1) hm2 true
            cases hg : get L (r1, n1) with
            | some u =>
              rw [hg] at hlk
              have hlk' : (Instr.lookup 45 (.map (some W3.heap.size)) (.agg #[.string r1, .string n1]) true).run Ybaz.prog ((wr.alloc (.cells #[.string r1, .string n1] 25)).alloc (.cells #[.string r1, .string n1] 52)) = .ok (.tuple #[u, .bool true]) ((wr.alloc (.cells #[.string r1, .string n1] 25)).alloc (.cells #[.string r1, .string n1] 52)) := hlk
              have h1' := l1_has h1 (by rw [← hx, hg]; rfl) (.cells #[.string r1, .string n1] 25) (.cells #[.string r1, .string n1] 52)
              have H1 := Lib.hid h1'
              clear h1' h1 hm2 hlk hx hg
              go_wp2_with fail
              go_roundw
              case rel => exact ⟨k + 1, L, n, by omega, by go_num, rfl, H1.out⟩
              case measure => simp [intOf]; omega
            | none =>
              rw [hg] at hlk
              have hlk' : (Instr.lookup 45 (.map (some W3.heap.size)) (.agg #[.string r1, .string n1]) true).run Ybaz.prog ((wr.alloc (.cells #[.string r1, .string n1] 25)).alloc (.cells #[.string r1, .string n1] 52)) = .ok (.tuple #[.int .u64 0, .bool false]) ((wr.alloc (.cells #[.string r1, .string n1] 25)).alloc (.cells #[.string r1, .string n1] 52)) := hlk
              obtain ⟨w', hst, hM', hT'⟩ := run_store keys52 Ybaz.underlying45 _ _ L (r1, n1) (.int .u64 n) hm2
              have hst' : (Instr.mapUpdate 45 (.map (some W3.heap.size)) (.agg #[.string r1, .string n1]) (.int .u64 n)).run Ybaz.prog ((wr.alloc (.cells #[.string r1, .string n1] 25)).alloc (.cells #[.string r1, .string n1] 52)) = .ok () w' := hst
              rw [hx] at hM'
              have h1' := l1_new h1 (Nat.le_refl _) (by rw [← hx, hg]) n _ _ hM' hT'
              have H1 := Lib.hid h1'
              clear h1' h1 hm2 hlk hx hg hst hM' hT'
              go_wp2_with fail
              go_roundw
              case rel => exact ⟨k + 1, _, _, by omega, by go_num, rfl, H1.out⟩
              case measure => simp [intOf]; omega
          · have hkl : k = len := by omega
            subst hkl
            go_wp2_with fail
            go_loopw [95] (fun i wr => ∃ j : Nat, j ≤ k ∧ i = .int .i64 j ∧ L2 W3 wr W3.heap.size (zb + 1) k j P L) (fun i _ => k - (intOf i).toNat)
            case atStart =>
              refine ⟨0, Nat.zero_le _, rfl, h1.mp, fun j hj => ⟨_, (h1.fr.cell (p := ⟨zb + 1, j, none⟩) (by simp; omega) (fun h => h)).trans (ce j hj)⟩, fun j hj => by omega, fun j => (h1.fr.frozen (p := ⟨zb + 1, j, none⟩) (by simp; omega) (fun h => h)).trans (fe j), h1.fr.mono (fun _ _ h => h.elim)⟩
            case round =>
              obtain ⟨j, hj, rfl, h2⟩ := hrel
              have hwr2 := h2.fr.size
              by_cases hlt2 : j < k
              · rcases hP3 with h0 | ⟨b, off, rfl, hbw, hc⟩
                · omega
                obtain ⟨x, hx⟩ : ∃ x, x = P j := ⟨_, rfl⟩
                obtain ⟨r1, n1⟩ := x
                have hck := hc j hlt2
                rw [← hx] at hck
                have q1 : wr.cell? ⟨b, off + j * 2, none⟩ = some (.string r1) := (h2.fr.cell (p := ⟨b, off + j * 2, none⟩) (by simp; omega) (by simp; omega)).trans hck.1
                have q2 : wr.cell? ⟨b, off + j * 2 + 1, none⟩ = some (.string n1) := (h2.fr.cell (p := ⟨b, off + j * 2 + 1, none⟩) (by simp; omega) (by simp; omega)).trans hck.2
                have hbr : b < wr.heap.size := by omega
                have heb : zb + 1 < wr.heap.size := by omega
                obtain ⟨v0, hv0⟩ := h2.at_ j hlt2
                have hfz := h2.fz j
                obtain ⟨u, hu⟩ := Option.isSome_iff_exists.1 (h1.has j hlt2)
                obtain ⟨e, rfl⟩ := h1.ints _ _ hu
                have hm2 : MapAt enc (wr.alloc (.cells #[.string r1, .string n1] 25)) W3.heap.size L := h2.mp.of_heap (Below.heap_alloc _ _ _ h2.mp.lt)
                have hlk := run_look keys52 Ybaz.underlying45 z23 _ _ L (r1, n1) hm2 false
                rw [hx, hu] at hlk
                have hlk' : (Instr.lookup 45 (.map (some W3.heap.size)) (.agg #[.string r1, .string n1]) false).run Ybaz.prog (wr.alloc (.cells #[.string r1, .string n1] 25)) = .ok (.int .u64 e) (wr.alloc (.cells #[.string r1, .string n1] 25)) := by
                  have e1 : enc (P j) = .agg #[.string r1, .string n1] := by rw [← hx]; rfl
                  rw [← e1]; exact hlk
                have h2' := l2_step h2 hlt2 (by omega) heb hu (.cells #[.string r1, .string n1] 25)
                have H2 := Lib.hid h2'
                have HK := Lib.hid (And.intro h1 (And.intro ce fe))
                clear h2' h2 h1 hm2 hlk hx hu hc hck ce fe
                go_wp2_with fail
                go_roundw
                case rel => exact ⟨j + 1, by omega, by go_num, H2.out⟩
                case measure => simp [intOf]; omega
              · have hjk : j = k := by omega
                subst hjk
                go_wp2_with fail
                go_meet
                case rel => exact ⟨some W3.heap.size, L, n, rfl, rfl, .inr ⟨_, rfl, h2.mp⟩, h1.ints, by have := h1.len; omega, h2.done, h2.fr, fun mb h => by cases h; exact Nat.le_refl _⟩
      · have hd : decide (0 < len) = false := by simpa using hpos
        go_wp2_with fail
        go_meet
        case rel => exact ⟨none, [], start, rfl, rfl, .inl ⟨rfl, rfl⟩, allInt_nil, by simp, fun j hj => by omega, Fr.refl _ _, fun mb h => by cases h⟩
    case rest =>
      obtain ⟨m, L, n, rfl, rfl, hH, hI, hLn, hE, hF4, hmb⟩ := hcut
      rename World => W4
      have z4 := hF4.size
      have c13 : W4.cell? ⟨zb, 13, none⟩ = some (.int .i32 0) := (hF4.cell (p := ⟨zb, 13, none⟩) (by simp; omega) (by simp)).trans z13
      have c15 : W4.cell? ⟨zb, 15, none⟩ = some (.map none) := (hF4.cell (p := ⟨zb, 15, none⟩) (by simp; omega) (by simp)).trans z15
      have c16 : W4.cell? ⟨zb, 16, none⟩ = some (.int .u64 0) := (hF4.cell (p := ⟨zb, 16, none⟩) (by simp; omega) (by simp)).trans z16
      have g13 : W4.frozen? ⟨zb, 13, none⟩ = false := (hF4.frozen (p := ⟨zb, 13, none⟩) (by simp; omega) (by simp)).trans (fz 13)
      have g15 : W4.frozen? ⟨zb, 15, none⟩ = false := (hF4.frozen (p := ⟨zb, 15, none⟩) (by simp; omega) (by simp)).trans (fz 15)
      have g16 : W4.frozen? ⟨zb, 16, none⟩ = false := (hF4.frozen (p := ⟨zb, 16, none⟩) (by simp; omega) (by simp)).trans (fz 16)
      have hP4 : Prior zb W4 a len P := hP3.fr hF4 (by omega) (fun i hi h => by omega) (Nat.le_refl _)
      have hF04 : Fr (fun _ => False) w0 W4 := hF3.trans hF4 (fun i hi h => by omega)
      clear z13 z15 z16 fz fe ce hP3
      go_upto_region 29 with fail
      obtain ⟨W5, hW5⟩ : ∃ W5, W5 = (W4.setCell ⟨zb, 15, none⟩ (.map m)).setCell ⟨zb, 16, none⟩ (.int .u64 n) := ⟨_, rfl⟩
      rw [← hW5]
      have hF5 : Fr (fun i => i = zb) W4 W5 := by rw [hW5]; exact ((Fr.refl (fun i => i = zb) _).setCell (.inl rfl) _).setCell (.inl rfl) _
      have z5 : W5.heap.size = W4.heap.size := by rw [hW5]; simp
      have e13 : W5.cell? ⟨zb, 13, none⟩ = some (.int .i32 0) := by rw [hW5]; exact (World.cell?_setCell_other _ _ _ _ (by simp)).trans ((World.cell?_setCell_other _ _ _ _ (by simp)).trans c13)
      have e15 : W5.cell? ⟨zb, 15, none⟩ = some (.map m) := by rw [hW5]; exact (World.cell?_setCell_other _ _ _ _ (by simp)).trans (World.cell?_setCell_same _ _ _ c15)
      have e16 : W5.cell? ⟨zb, 16, none⟩ = some (.int .u64 n) := by rw [hW5]; exact World.cell?_setCell_same _ _ _ ((World.cell?_setCell_other _ _ _ _ (by simp)).trans c16)
      have k13 : W5.frozen? ⟨zb, 13, none⟩ = false := by rw [hW5, World.frozen?_setCell, World.frozen?_setCell]; exact g13
      have k15 : W5.frozen? ⟨zb, 15, none⟩ = false := by rw [hW5, World.frozen?_setCell, World.frozen?_setCell]; exact g15
      have k16 : W5.frozen? ⟨zb, 16, none⟩ = false := by rw [hW5, World.frozen?_setCell, World.frozen?_setCell]; exact g16
      have hH5 : Held W5 m L := hH.fr hF5 (fun mb h => by have := hmb mb h; simp; omega)
      have hP5 : Prior zb W5 a len P := hP4.fr hF5 (by omega) (fun i hi h => by omega) (Nat.le_refl _)
      have hE5 : ∀ j, j < len → ∃ e, get L (P j) = some (.int .u64 e) ∧ W5.cell? ⟨zb + 1, j, none⟩ = some (.int .u64 e) := fun j hj => by
        obtain ⟨e, h1, h2⟩ := hE j hj
        exact ⟨e, h1, (hF5.cell (p := ⟨zb + 1, j, none⟩) (by simp; omega) (by simp)).trans h2⟩
      have hF05 : Fr (fun _ => False) w0 W5 := hF04.trans hF5 (fun i hi h => by omega)
      have z5' : zb + 2 ≤ W5.heap.size := by omega
      have hmb5 : ∀ mb, m = some mb → zb + 2 ≤ mb := fun mb h => by have := hmb mb h; omega
      clear c13 c15 c16 g13 g15 g16 hW5 hH hE hF4 hP4 hF04 hF5 z4 z5 hmb hF3 hz3
      have hlen := fun ty => held_len ty hH5
      obtain ⟨W6, hW6⟩ : ∃ W6, W6 = W5.alloc (.cells #[.string r', .string nm'] 52) := ⟨_, rfl⟩
      have hF6 : Fr (fun _ => False) W5 W6 := by rw [hW6]; exact (Fr.refl _ _).alloc _
      have hH6 : Held W6 m L := hH5.fr hF6 (fun _ _ h => h)
      have hlk := held_look hH6 (r', nm')
      rw [hW6] at hlk
      have HE := Lib.hid (And.intro hE5 (And.intro hI hmb5))
      have HH := Lib.hid (And.intro hH5 hH6)
      have HW6 := Lib.hid hW6
      clear hE5 hI hH5 hH6 hW6 hmb5
      go_wp2_with fail
      obtain ⟨sc, hsc⟩ : ∃ sc : Array Value, sc = #[.int .i64 0, .int .i64 0, .int .i64 0, .pointer none, .pointer none, .pointer none, .int .i32 0, .int .u32 0, .nilFunc, .int .i64 0, .int .i64 0, .int .i32 0, .int .u32 0, .slice none 0 0, .int .i32 0, .int .u32 0, .map none, .slice none 0 0, .int .i64 0, .string ⟨#[]⟩, .int .i64 0, .pointer (some ⟨zb, 0, none⟩), .pointer none, .int .i64 0, .int .i32 0, .int .u32 0, .map none, .chan none] := ⟨_, rfl⟩
      obtain ⟨oc, hoc⟩ : ∃ oc : Array Value, oc = #[.string nm', .string r', .string ⟨#[]⟩, .string ⟨#[]⟩, .slice none 0 0, .slice none 0 0] := ⟨_, rfl⟩
      rw [← hsc, ← hoc]
      obtain ⟨W7, hW7⟩ : ∃ W7, W7 = ((W5.alloc (.cells #[.string r', .string nm'] 52)).alloc (.cells sc 79)).alloc (.cells oc 85) := ⟨_, rfl⟩
      rw [← hW7]
      obtain ⟨B, hB⟩ : ∃ B, B = W5.heap.size := ⟨_, rfl⟩
      rw [← hB]
      have hF7 : Fr (fun _ => False) W5 W7 := by rw [hW7]; exact (((Fr.refl _ _).alloc _).alloc _).alloc _
      have z7 : W7.heap.size = B + 3 := by rw [hW7, hB]; simp
      have ck : ∀ o, W7.cell? ⟨B, o, none⟩ = (#[.string r', .string nm'] : Array Value)[o]? := fun o => by
        rw [hW7, hB, World.cell?_alloc_lt _ _ _ (by simp; omega), World.cell?_alloc_lt _ _ _ (by simp)]; exact World.cell?_alloc_new _ _ _ _
      have cs : ∀ o, W7.cell? ⟨B + 1, o, none⟩ = sc[o]? := fun o => by
        have := World.cell?_alloc_new (W5.alloc (.cells #[.string r', .string nm'] 52)) sc 79 o
        rw [World.size_alloc, ← hB] at this
        rw [hW7, World.cell?_alloc_lt _ _ _ (by simp [hB])]; exact this
      have co : ∀ o, W7.cell? ⟨B + 1 + 1, o, none⟩ = oc[o]? := fun o => by
        have := World.cell?_alloc_new ((W5.alloc (.cells #[.string r', .string nm'] 52)).alloc (.cells sc 79)) oc 85 o
        rw [World.size_alloc, World.size_alloc, ← hB] at this
        rw [hW7]; exact this
      have mlt : ∀ mb, m = some mb → mb < B := fun mb h => by
        rcases HH.out.1 with ⟨h', _⟩ | ⟨mb', h', hm⟩
        · rw [h] at h'; cases h'
        · rw [h] at h'; cases h'; rw [hB]; exact hm.lt
      have hcall := unknown_zone (B + 1) zb (B + 1 + 1) m n r' nm' L W7 (by rw [cs, hsc]; rfl) (by rw [co, hoc]; rfl) (by rw [co, hoc]; rfl)
        ((hF7.cell (p := ⟨zb, 13, none⟩) (by simp; omega) (fun h => h)).trans e13) ((hF7.frozen (p := ⟨zb, 13, none⟩) (by simp; omega) (fun h => h)).trans k13)
        ((hF7.frozen (p := ⟨zb, 16, none⟩) (by simp; omega) (fun h => h)).trans k16) ((hF7.frozen (p := ⟨zb, 15, none⟩) (by simp; omega) (fun h => h)).trans k15)
        ((hF7.cell (p := ⟨zb, 15, none⟩) (by simp; omega) (fun h => h)).trans e15) ((hF7.cell (p := ⟨zb, 16, none⟩) (by simp; omega) (fun h => h)).trans e16) (HH.out.1.fr hF7 (fun _ _ h => h))
      refine hcall.mono ?_
      rintro e W8 ⟨rfl, hw⟩
      clear hcall
      obtain ⟨mb, t15, hmp⟩ := hw.held
      have t16 := hw.c3
      have z8 := hw.fr.size
      have s26 : W8.cell? ⟨B + 1, 26, none⟩ = some (.map none) := (hw.fr.cell (p := ⟨B + 1, 26, none⟩) (by simp; omega) (by rintro (h | h); simp at h; omega; have := mlt _ h.symm; simp at this; omega)).trans (by rw [cs, hsc]; rfl)
      have b0 : W8.cell? ⟨B, 0, none⟩ = some (.string r') := (hw.fr.cell (p := ⟨B, 0, none⟩) (by simp; omega) (by rintro (h | h); simp at h; omega; have := mlt _ h.symm; simp at this)).trans (by rw [ck]; rfl)
      have b1 : W8.cell? ⟨B, 1, none⟩ = some (.string nm') := (hw.fr.cell (p := ⟨B, 1, none⟩) (by simp; omega) (by rintro (h | h); simp at h; omega; have := mlt _ h.symm; simp at this)).trans (by rw [ck]; rfl)
      have hF8 : Fr (fun _ => False) w0 W8 := (hF05.trans hF7 (fun _ _ h => h)).trans hw.fr (fun i hi h => by rcases h with h | h; omega; have := HE.out.2.2 _ h.symm; omega)
      have hP8 : Prior zb W8 a len P := (hP5.fr hF7 (by omega) (fun _ _ h => h) (Nat.le_refl zb)).fr hw.fr (by omega) (fun i hi h => by rcases h with h | h; omega; have := HE.out.2.2 _ h.symm; omega) (Nat.le_refl _)
      have hE8 : ∀ j, j < len → ∃ e, get (grow L (r', nm') n) (P j) = some (.int .u64 e) ∧ W8.cell? ⟨zb + 1, j, none⟩ = some (.int .u64 e) := fun j hj => by
        obtain ⟨e, h1, h2⟩ := HE.out.1 j hj
        refine ⟨e, get_grow h1, (hw.fr.cell (p := ⟨zb + 1, j, none⟩) (by simp; omega) ?_).trans ((hF7.cell (p := ⟨zb + 1, j, none⟩) (by simp; omega) (fun h => h)).trans h2)⟩
        rintro (h | h)
        · simp at h
        · have := HE.out.2.2 _ h.symm; simp at this
      have hlen8 := fun ty q => run_len Ybaz.underlying45 ty (W8.drewN q) mb _ (hmp.of_heap rfl)
      have hn74 : ∀ w, (binOp .neq 74 (.map none) (.map none)).run Ybaz.prog w = .ok (.bool false) w := fun w => run_neq_map_nil w 74 52 91 none Ybaz.underlying74
      obtain ⟨L', hL'⟩ : ∃ L', L' = grow L (r', nm') n := ⟨_, rfl⟩
      rw [← hL'] at hmp hlen8 hE8
      have hIL : ∀ k v, get L k = some v → ∃ e, v = .int .u64 e := HE.out.2.1
      have hlk8 : ∀ q, (Instr.lookup 45 (.map (some mb)) (.agg #[.string r', .string nm']) true).run Ybaz.prog (W8.drewN q) = .ok (.tuple #[(get L' (r', nm')).getD (.int .u64 0), .bool (get L' (r', nm')).isSome]) (W8.drewN q) :=
        fun q => run_look keys52 Ybaz.underlying45 z23 (W8.drewN q) mb L' (r', nm') (hmp.of_heap rfl) true
      have hz8 : zb + 2 ≤ W8.heap.size := by omega
      have hB8 : B + 3 ≤ W8.heap.size := by omega
      have HM := Lib.hid (And.intro hmp hE8)
      have HP := Lib.hid hP8
      clear hw hmp hE8 hP8 hlk hlen cs co ck hsc hoc hW7 hB z7 z8 hF7 hP5 hF05 e13 e15 e16 k13 k15 k16 mlt HH HW6 hF6 z5'
      cases hg : get L (r', nm') with
      | some u =>
        obtain ⟨e, rfl⟩ := hIL _ _ hg
        have e1 : L' = L := by rw [hL']; simp [grow, hg]
        have e2 : next L (r', nm') n = n := by simp [next, hg]
        subst e1
        rw [e2] at t16
        rw [hg] at hlk8
        clear hL' e2 hIL
        have hn : ∀ ty q, (Builtin.len_ #[45] ty #[.map (some mb)]).run Ybaz.prog (W8.drewN q) = .ok (.int .i64 L'.length) (W8.drewN q) := hlen8
        clear hlen8
        go_wp2_with fail
        go_quiet (fail)
        go_wp2_with fail
        go_loopw [208] (fun i wr => ∃ j : Nat, j ≤ len ∧ i = .int .i64 j ∧ Fr (fun _ => False) W8 wr) (fun i _ => len - (intOf i).toNat)
        case atStart => exact ⟨0, Nat.zero_le _, rfl, (Fr.refl _ _).drewN _⟩
        case round =>
          obtain ⟨j, hj, rfl, hFr⟩ := hrel
          have hwr := hFr.size
          by_cases hlt : j < len
          · rcases HP.out with h0 | ⟨b, off, rfl, hbw, hc⟩
            · omega
            obtain ⟨x, hx⟩ : ∃ x, x = P j := ⟨_, rfl⟩
            obtain ⟨r1, n1⟩ := x
            have hck := hc j hlt
            rw [← hx] at hck
            have q1 : wr.cell? ⟨b, off + j * 2, none⟩ = some (.string r1) := (hFr.cell (p := ⟨b, off + j * 2, none⟩) (by simp; omega) (fun h => h)).trans hck.1
            have q2 : wr.cell? ⟨b, off + j * 2 + 1, none⟩ = some (.string n1) := (hFr.cell (p := ⟨b, off + j * 2 + 1, none⟩) (by simp; omega) (fun h => h)).trans hck.2
            obtain ⟨ej, hej, hcj⟩ := HM.out.2 j hlt
            have q3 : wr.cell? ⟨zb + 1, j, none⟩ = some (.int .u64 ej) := (hFr.cell (p := ⟨zb + 1, j, none⟩) (by simp; omega) (fun h => h)).trans hcj
            have q4 : wr.cell? ⟨zb, 15, none⟩ = some (.map (some mb)) := (hFr.cell (p := ⟨zb, 15, none⟩) (by simp; omega) (fun h => h)).trans t15
            have hbr : b < wr.heap.size := by omega
            have hzr : zb < wr.heap.size := by omega
            have hzr1 : zb + 1 < wr.heap.size := by omega
            obtain ⟨w9, hw9⟩ : ∃ w9, w9 = wr.alloc (.cells #[.string r1, .string n1] 25) := ⟨_, rfl⟩
            have hF9 : Fr (fun _ => False) W8 w9 := by rw [hw9]; exact hFr.alloc _
            have hlk9 : ∀ q, (Instr.lookup 45 (.map (some mb)) (.agg #[.string r1, .string n1]) true).run Ybaz.prog (w9.drewN q) = .ok (.tuple #[.int .u64 ej, .bool true]) (w9.drewN q) := fun q => by
              have := run_look keys52 Ybaz.underlying45 z23 (w9.drewN q) mb L' (r1, n1) (HM.out.1.of_heap ((hF9.block mb HM.out.1.lt (fun h => h)))) true
              rw [hx, hej] at this
              have e1 : enc (P j) = .agg #[.string r1, .string n1] := by rw [← hx]; rfl
              rw [← e1]; exact this
            have v15 : w9.cell? ⟨zb, 15, none⟩ = some (.map (some mb)) := by rw [hw9]; exact (World.cell?_alloc_lt _ _ _ hzr).trans q4
            have v3 : w9.cell? ⟨zb + 1, j, none⟩ = some (.int .u64 ej) := by rw [hw9]; exact (World.cell?_alloc_lt _ _ _ hzr1).trans q3
            have va : w9.cell? ⟨wr.heap.size, 0, none⟩ = some (.string r1) := by rw [hw9]; exact World.cell?_alloc_new _ _ _ _
            have vb : w9.cell? ⟨wr.heap.size, 1, none⟩ = some (.string n1) := by rw [hw9]; exact World.cell?_alloc_new _ _ _ _
            have H9 := Lib.hid hw9
            clear hc hck hx hej hcj hw9 hF9 q3 q4
            go_wp2_with fail
            rw [← H9.out]
            go_quiet (fail)
            go_wp2_with fail
            go_roundw
            case rel => exact ⟨j + 1, by omega, by go_num, by rw [H9.out]; exact (hFr.alloc _).drewN _⟩
            case measure => simp [intOf]; omega
          · go_wp2_with fail
            go_ret
            exact ⟨rfl, (hF8.trans hFr (fun _ _ h => h)).below (fun _ _ h => h)⟩
      | none =>
        have e1 : L' = put L (r', nm') (.int .u64 n) := by rw [hL']; simp [grow, hg]
        have e2 : next L (r', nm') n = IntKind.u64.wrap (n + 1) := by simp [next, hg]
        have e3 : get L' (r', nm') = some (.int .u64 n) := by rw [e1, get_put, if_pos rfl]
        have e4 : ((L'.length : Nat) : Int) = (L.length : Int) + 1 := by rw [e1, length_put, hg]; simp
        rw [e2] at t16
        rw [e3] at hlk8
        clear hL' e2 hIL e1 e3
        have hn : ∀ ty q, (Builtin.len_ #[45] ty #[.map (some mb)]).run Ybaz.prog (W8.drewN q) = .ok (.int .i64 ((L.length : Int) + 1)) (W8.drewN q) := fun ty q => by rw [← e4]; exact hlen8 ty q
        clear hlen8 e4
        go_wp2_with fail
        go_quiet (fail)
        go_wp2_with fail
        go_loopw [208] (fun i wr => ∃ j : Nat, j ≤ len ∧ i = .int .i64 j ∧ Fr (fun _ => False) W8 wr) (fun i _ => len - (intOf i).toNat)
        case atStart => exact ⟨0, Nat.zero_le _, rfl, (Fr.refl _ _).drewN _⟩
        case round =>
          obtain ⟨j, hj, rfl, hFr⟩ := hrel
          have hwr := hFr.size
          by_cases hlt : j < len
          · rcases HP.out with h0 | ⟨b, off, rfl, hbw, hc⟩
            · omega
            obtain ⟨x, hx⟩ : ∃ x, x = P j := ⟨_, rfl⟩
            obtain ⟨r1, n1⟩ := x
            have hck := hc j hlt
            rw [← hx] at hck
            have q1 : wr.cell? ⟨b, off + j * 2, none⟩ = some (.string r1) := (hFr.cell (p := ⟨b, off + j * 2, none⟩) (by simp; omega) (fun h => h)).trans hck.1
            have q2 : wr.cell? ⟨b, off + j * 2 + 1, none⟩ = some (.string n1) := (hFr.cell (p := ⟨b, off + j * 2 + 1, none⟩) (by simp; omega) (fun h => h)).trans hck.2
            obtain ⟨ej, hej, hcj⟩ := HM.out.2 j hlt
            have q3 : wr.cell? ⟨zb + 1, j, none⟩ = some (.int .u64 ej) := (hFr.cell (p := ⟨zb + 1, j, none⟩) (by simp; omega) (fun h => h)).trans hcj
            have q4 : wr.cell? ⟨zb, 15, none⟩ = some (.map (some mb)) := (hFr.cell (p := ⟨zb, 15, none⟩) (by simp; omega) (fun h => h)).trans t15
            have hbr : b < wr.heap.size := by omega
            have hzr : zb < wr.heap.size := by omega
            have hzr1 : zb + 1 < wr.heap.size := by omega
            obtain ⟨w9, hw9⟩ : ∃ w9, w9 = wr.alloc (.cells #[.string r1, .string n1] 25) := ⟨_, rfl⟩
            have hF9 : Fr (fun _ => False) W8 w9 := by rw [hw9]; exact hFr.alloc _
            have hlk9 : ∀ q, (Instr.lookup 45 (.map (some mb)) (.agg #[.string r1, .string n1]) true).run Ybaz.prog (w9.drewN q) = .ok (.tuple #[.int .u64 ej, .bool true]) (w9.drewN q) := fun q => by
              have := run_look keys52 Ybaz.underlying45 z23 (w9.drewN q) mb L' (r1, n1) (HM.out.1.of_heap ((hF9.block mb HM.out.1.lt (fun h => h)))) true
              rw [hx, hej] at this
              have e1 : enc (P j) = .agg #[.string r1, .string n1] := by rw [← hx]; rfl
              rw [← e1]; exact this
            have v15 : w9.cell? ⟨zb, 15, none⟩ = some (.map (some mb)) := by rw [hw9]; exact (World.cell?_alloc_lt _ _ _ hzr).trans q4
            have v3 : w9.cell? ⟨zb + 1, j, none⟩ = some (.int .u64 ej) := by rw [hw9]; exact (World.cell?_alloc_lt _ _ _ hzr1).trans q3
            have va : w9.cell? ⟨wr.heap.size, 0, none⟩ = some (.string r1) := by rw [hw9]; exact World.cell?_alloc_new _ _ _ _
            have vb : w9.cell? ⟨wr.heap.size, 1, none⟩ = some (.string n1) := by rw [hw9]; exact World.cell?_alloc_new _ _ _ _
            have H9 := Lib.hid hw9
            clear hc hck hx hej hcj hw9 hF9 q3 q4
            go_wp2_with fail
            rw [← H9.out]
            go_quiet (fail)
            go_wp2_with fail
            go_roundw
            case rel => exact ⟨j + 1, by omega, by go_num, by rw [H9.out]; exact (hFr.alloc _).drewN _⟩
            case measure => simp [intOf]; omega
          · go_wp2_with fail
            go_ret
            exact ⟨rfl, (hF8.trans hFr (fun _ _ h => h)).below (fun _ _ h => h)⟩
end Go.Proofs.YbulkbseuGreat.AM
