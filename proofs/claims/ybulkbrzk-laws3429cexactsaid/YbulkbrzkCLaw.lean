import Derived.Test.YbulkbrzkModel
import Derived.Laws.MakeOwn
import Derived.Laws.Tables
import Derived.WalkSpells
import Derived.WalkLawsBesides
namespace Go.Proofs.Ybulkbrzk.Raft
open Go.ChangeShapes Go.WideShapes Go.ChangeAt Go.RowKit
set_option linter.unusedVariables false      -- a bound that the walk or omega takes from the context

theorem info24 : (Yba.prog.info? 24).map (fun i => (i.zero, i.size, i.bytes)) = some (some (.int .u64 0), 1, 8) := by kernel_rfl
theorem info58 : (Yba.prog.info? 58).map (fun i => (i.zero, i.size, i.bytes)) = some (some (.agg #[.int .u64 0, .int .u64 0, .string ByteArray.empty, .int .i64 0]), 4, 40) := by kernel_rfl

theorem make55 (w : World) (n : Nat) (h : n ≤ 1024) : (Instr.makeSlice 55 (.int .i64 n) (.int .i64 n)).run Yba.prog w = .ok (.slice (some ⟨w.heap.size, 0, none⟩) n n) (w.alloc (.cells (madeCells #[.int .u64 0] n) 24)) := by
  obtain ⟨i, hi, hz0, hz1, hz2⟩ := info_parts info24
  have := run_make (P := Yba.prog) w 55 24 i (.int .u64 0) Yba.underlying55 hi hz0 .i64 .i64 n n (by omega) (by omega) (by rw [hz2]; omega) (by omega)
  rw [this]
  simp [hz1, Value.cells]
theorem make56 (w : World) (n : Nat) (h : n ≤ 1024) : (Instr.makeSlice 56 (.int .i64 n) (.int .i64 n)).run Yba.prog w = .ok (.slice (some ⟨w.heap.size, 0, none⟩) n n) (w.alloc (.cells (madeCells #[.int .u64 0, .int .u64 0, .string ByteArray.empty, .int .i64 0] (n * 4)) 58)) := by
  obtain ⟨i, hi, hz0, hz1, hz2⟩ := info_parts info58
  have := run_make (P := Yba.prog) w 56 58 i _ Yba.underlying56 hi hz0 .i64 .i64 n n (by omega) (by omega) (by rw [hz2]; omega) (by omega)
  rw [this]
  simp [hz1, Value.cells]

/-- the running term: the snapshot's, raised by each step modulo 3 -/
def Sum (s8 : Int) (S : Nat → Int) : Nat → Int
  | 0 => s8
  | k + 1 => Sum s8 S k + S k % 3


theorem Sum_bd (s8 : Int) (S : Nat → Int) (b8 : 0 ≤ s8 ∧ s8 ≤ 255) (hS : ∀ j, 0 ≤ S j ∧ S j ≤ 255) (k : Nat) : 0 ≤ Sum s8 S k ∧ Sum s8 S k ≤ 255 + 2 * k := by
  induction k with
  | zero => simp [Sum]; omega
  | succ k ih => have := hS k; simp only [Sum]; omega
theorem Sum_mono (s8 : Int) (S : Nat → Int) (hS : ∀ j, 0 ≤ S j ∧ S j ≤ 255) : ∀ i j, i ≤ j → Sum s8 S i ≤ Sum s8 S j := by
  intro i j h
  induction j with
  | zero => have : i = 0 := by omega
            subst this; exact Int.le_refl _
  | succ j ih =>
    by_cases e : i = j + 1
    · subst e; exact Int.le_refl _
    · have := ih (by omega)
      have := hS j
      simp only [Sum]; omega

/-- What lies in the two rows that the law makes, behind k rounds. -/
structure Two (w wr : World) (len k : Nat) (si s8 : Int) (S : Nat → Int) : Prop where
  size : wr.heap.size = w.heap.size + 2
  below : Below w.heap.size w wr
  f1 : ∀ j, wr.frozen? ⟨w.heap.size, j, none⟩ = false
  f2 : ∀ j, wr.frozen? ⟨w.heap.size + 1, j, none⟩ = false
  t : ∀ j, j < len → wr.cell? ⟨w.heap.size, j, none⟩ = some (.int .u64 (if j < k then Sum s8 S (j + 1) else 0))
  l0 : ∀ j, j < len → wr.cell? ⟨w.heap.size + 1, j * 4, none⟩ = some (.int .u64 (if j < k then si + 1 + j else 0))
  l1 : ∀ j, j < len → wr.cell? ⟨w.heap.size + 1, j * 4 + 1, none⟩ = some (.int .u64 (if j < k then Sum s8 S (j + 1) else 0))
  l2 : ∀ j, j < len → wr.cell? ⟨w.heap.size + 1, j * 4 + 2, none⟩ = some (.string ByteArray.empty)
  l3 : ∀ j, j < len → wr.cell? ⟨w.heap.size + 1, j * 4 + 3, none⟩ = some (.int .i64 0)

theorem made_get (z : Array Value) (n i : Nat) (h : i < n) : (madeCells z n)[i]? = some (z[i % z.size]!) := by
  simp [madeCells, h]

theorem two_start (w : World) (len : Nat) (si s8 : Int) (S : Nat → Int) :
    Two w ((w.alloc (.cells (madeCells #[.int .u64 0] len) 24)).alloc (.cells (madeCells #[.int .u64 0, .int .u64 0, .string ByteArray.empty, .int .i64 0] (len * 4)) 58)) len 0 si s8 S := by
  have hn : ∀ (j : Nat), ((w.alloc (.cells (madeCells #[.int .u64 0] len) 24)).alloc (.cells (madeCells #[.int .u64 0, .int .u64 0, .string ByteArray.empty, .int .i64 0] (len * 4)) 58)).cell? ⟨w.heap.size + 1, j, none⟩ = (madeCells #[.int .u64 0, .int .u64 0, .string ByteArray.empty, .int .i64 0] (len * 4))[j]? := fun j => by
    have := World.cell?_alloc_new (w.alloc (.cells (madeCells #[.int .u64 0] len) 24)) (madeCells #[.int .u64 0, .int .u64 0, .string ByteArray.empty, .int .i64 0] (len * 4)) 58 j
    rw [World.size_alloc] at this
    exact this
  have ho : ∀ (j : Nat), ((w.alloc (.cells (madeCells #[.int .u64 0] len) 24)).alloc (.cells (madeCells #[.int .u64 0, .int .u64 0, .string ByteArray.empty, .int .i64 0] (len * 4)) 58)).cell? ⟨w.heap.size, j, none⟩ = (madeCells #[.int .u64 0] len)[j]? := fun j => by
    rw [World.cell?_alloc_lt _ _ _ (by simp)]
    exact World.cell?_alloc_new _ _ _ _
  refine ⟨by simp, ((Below.refl _ _).alloc (Nat.le_refl _) _).alloc (by simp) _, fun j => by simp, fun j => by simp, fun j hj => ?_, fun j hj => ?_, fun j hj => ?_, fun j hj => ?_, fun j hj => ?_⟩
  · rw [ho, made_get _ _ _ hj]; simp [Nat.mod_one]
  · rw [hn, made_get _ _ _ (by omega)]; simp
  · rw [hn, made_get _ _ _ (by omega)]; simp [show (j * 4 + 1) % 4 = 1 from by omega]
  · rw [hn, made_get _ _ _ (by omega)]; simp [show (j * 4 + 2) % 4 = 2 from by omega]
  · rw [hn, made_get _ _ _ (by omega)]; simp [show (j * 4 + 3) % 4 = 3 from by omega]


theorem cell_set {w : World} {a : Addr} {u : Value} (h : w.cell? a = some u) (v : Value) (b : Addr) : (w.setCell a v).cell? b = if a = b then some v else w.cell? b := by
  by_cases e : a = b
  · subst e; rw [if_pos rfl]; exact World.cell?_setCell_same _ _ _ h
  · rw [if_neg e]; exact World.cell?_setCell_other _ _ _ _ e

theorem addr_eq {b o b' o' : Nat} : ((⟨b, o, none⟩ : Addr) = ⟨b', o', none⟩) ↔ (b = b' ∧ o = o') := by simp

theorem two_step {w wr : World} {len k : Nat} {si s8 : Int} {S : Nat → Int} (h : Two w wr len k si s8 S) (hk : k < len) :
    Two w (((((wr.setCell ⟨w.heap.size, k, none⟩ (.int .u64 (Sum s8 S k + S k % 3))).setCell ⟨w.heap.size + 1, k * 4, none⟩ (.int .u64 (si + 1 + k))).setCell
      ⟨w.heap.size + 1, k * 4 + 1, none⟩ (.int .u64 (Sum s8 S k + S k % 3))).setCell ⟨w.heap.size + 1, k * 4 + 2, none⟩ (.string ByteArray.empty)).setCell
      ⟨w.heap.size + 1, k * 4 + 3, none⟩ (.int .i64 0)) len (k + 1) si s8 S := by
  obtain ⟨hs, hb, f1, f2, t, l0, l1, l2, l3⟩ := h
  have q1 := cell_set (t k hk) (.int .u64 (Sum s8 S k + S k % 3))
  generalize hw1 : wr.setCell ⟨w.heap.size, k, none⟩ (.int .u64 (Sum s8 S k + S k % 3)) = w1 at q1
  have q2 := cell_set (w := w1) (a := ⟨w.heap.size + 1, k * 4, none⟩) (by rw [q1, if_neg (by rw [addr_eq]; omega)]; exact l0 k hk) (.int .u64 (si + 1 + k))
  generalize hw2 : w1.setCell ⟨w.heap.size + 1, k * 4, none⟩ (.int .u64 (si + 1 + k)) = w2 at q2
  have q3 := cell_set (w := w2) (a := ⟨w.heap.size + 1, k * 4 + 1, none⟩) (by rw [q2, if_neg (by rw [addr_eq]; omega), q1, if_neg (by rw [addr_eq]; omega)]; exact l1 k hk) (.int .u64 (Sum s8 S k + S k % 3))
  generalize hw3 : w2.setCell ⟨w.heap.size + 1, k * 4 + 1, none⟩ (.int .u64 (Sum s8 S k + S k % 3)) = w3 at q3
  have q4 := cell_set (w := w3) (a := ⟨w.heap.size + 1, k * 4 + 2, none⟩) (by rw [q3, if_neg (by rw [addr_eq]; omega), q2, if_neg (by rw [addr_eq]; omega), q1, if_neg (by rw [addr_eq]; omega)]; exact l2 k hk) (.string ByteArray.empty)
  generalize hw4 : w3.setCell ⟨w.heap.size + 1, k * 4 + 2, none⟩ (.string ByteArray.empty) = w4 at q4
  have q5 := cell_set (w := w4) (a := ⟨w.heap.size + 1, k * 4 + 3, none⟩) (by rw [q4, if_neg (by rw [addr_eq]; omega), q3, if_neg (by rw [addr_eq]; omega), q2, if_neg (by rw [addr_eq]; omega), q1, if_neg (by rw [addr_eq]; omega)]; exact l3 k hk) (.int .i64 0)
  generalize hw5 : w4.setCell ⟨w.heap.size + 1, k * 4 + 3, none⟩ (.int .i64 0) = w5 at q5
  refine ⟨?_, ?_, ?_, ?_, fun j hj => ?_, fun j hj => ?_, fun j hj => ?_, fun j hj => ?_, fun j hj => ?_⟩
  · subst hw5 hw4 hw3 hw2 hw1; simpa using hs
  · subst hw5 hw4 hw3 hw2 hw1
    exact ((((hb.setCell (by simp) _).setCell (by simp) _).setCell (by simp) _).setCell (by simp) _).setCell (by simp) _
  · subst hw5 hw4 hw3 hw2 hw1; intro j; simpa using f1 j
  · subst hw5 hw4 hw3 hw2 hw1; intro j; simpa using f2 j
  · rw [q5, if_neg (by rw [addr_eq]; omega), q4, if_neg (by rw [addr_eq]; omega), q3, if_neg (by rw [addr_eq]; omega), q2, if_neg (by rw [addr_eq]; omega), q1]
    by_cases e : k = j
    · subst e; rw [if_pos rfl, if_pos (by omega)]; rfl
    · rw [if_neg (by rw [addr_eq]; omega), t j hj]
      by_cases g : j < k
      · rw [if_pos g, if_pos (by omega)]
      · rw [if_neg g, if_neg (by omega)]
  · rw [q5, if_neg (by rw [addr_eq]; omega), q4, if_neg (by rw [addr_eq]; omega), q3, if_neg (by rw [addr_eq]; omega), q2]
    by_cases e : k = j
    · subst e; rw [if_pos rfl, if_pos (by omega)]
    · rw [if_neg (by rw [addr_eq]; omega), q1, if_neg (by rw [addr_eq]; omega), l0 j hj]
      by_cases g : j < k
      · rw [if_pos g, if_pos (by omega)]
      · rw [if_neg g, if_neg (by omega)]
  · rw [q5, if_neg (by rw [addr_eq]; omega), q4, if_neg (by rw [addr_eq]; omega), q3]
    by_cases e : k = j
    · subst e; rw [if_pos rfl, if_pos (by omega)]; rfl
    · rw [if_neg (by rw [addr_eq]; omega), q2, if_neg (by rw [addr_eq]; omega), q1, if_neg (by rw [addr_eq]; omega), l1 j hj]
      by_cases g : j < k
      · rw [if_pos g, if_pos (by omega)]
      · rw [if_neg g, if_neg (by omega)]
  · rw [q5, if_neg (by rw [addr_eq]; omega), q4]
    by_cases e : k = j
    · subst e; rw [if_pos rfl]
    · rw [if_neg (by rw [addr_eq]; omega), q3, if_neg (by rw [addr_eq]; omega), q2, if_neg (by rw [addr_eq]; omega), q1, if_neg (by rw [addr_eq]; omega), l2 j hj]
  · rw [q5]
    by_cases e : k = j
    · subst e; rw [if_pos rfl]
    · rw [if_neg (by rw [addr_eq]; omega), q4, if_neg (by rw [addr_eq]; omega), q3, if_neg (by rw [addr_eq]; omega), q2, if_neg (by rw [addr_eq]; omega), q1, if_neg (by rw [addr_eq]; omega), l3 j hj]


/-- 'Op.build', its cells told by a closed fact. -/
theorem wp_built {P : Program} {o : Oper} {a : Act} {w : World} {K : Act → World → Prop} {Q : Exit → Act → World → Prop} (t : TypeId) (parts : Array (Nat × Operand)) (cells : Array Value) (ho : o.op = .build t parts)
    (hc : P.built t (parts.map fun (i, x) => (i, a.eval x)).toList = some cells) (h : K (a.put o.dst (.agg cells)) w) : o.wp P a w K Q :=
  wp_build t parts ho (by rw [hc]; rfl) (by rw [hc]; exact h)

theorem raft_cells (si st : Int) (lb n : Nat) : ∃ cells, Yba.prog.built 80 [(17, .agg #[.int .u64 si, .int .u64 st, .slice none 0 0]), (18, .slice (some ⟨lb, 0, none⟩) n n)] = some cells ∧
    cells[18]? = some (.int .u64 si) ∧ cells[19]? = some (.int .u64 st) ∧ cells[21]? = some (.slice (some ⟨lb, 0, none⟩) n n) :=
  ⟨(Yba.prog.built 80 [(17, .agg #[.int .u64 si, .int .u64 st, .slice none 0 0]), (18, .slice (some ⟨lb, 0, none⟩) n n)]).getD #[], by kernel_rfl, by kernel_rfl, by kernel_rfl, by kernel_rfl⟩

set_option maxRecDepth 100000 in
set_option maxHeartbeats 1000000 in
theorem law_in (si s8 : Int) (a : Option Addr) (len cap : Nat) (S : Nat → Int) (li hint lt ts : Int) (w : World) (b0 : 0 ≤ si) (b1 : si ≤ 4611686018427387904) (bn : len ≤ 1024)
    (b8 : 0 ≤ s8 ∧ s8 ≤ 255) (hS : ∀ j, 0 ≤ S j ∧ S j ≤ 255)
    (ha : len = 0 ∨ ∃ b off, a = some ⟨b, off, none⟩ ∧ b < w.heap.size ∧ ∀ j, j < len → w.cell? ⟨b, off + j, none⟩ = some (.int .u8 (S j))) :
    Calls Yba.prog 7 #[.int .u64 si, .int .u8 s8, .slice a len cap, .int .u64 li, .int .u64 hint, .int .u64 lt, .int .u64 ts] w fun e w' => e = .returned (.bool true) ∧ Below w.heap.size w w' := by
  have hm1 := fun W => make55 W len bn
  have hm2 := fun W => make56 W len bn
  have d1 : decide ((1024 : Int) < len) = false := by simp; omega
  have d2 : decide ((4611686018427387904 : Int) < si) = false := by simp; omega
  go_enter Yba.func7, Yba.ntmps7
  go_wp2
  go_loopw [17, 42] (fun t i wr => ∃ k : Nat, k ≤ len ∧ i = .int .i64 k ∧ t = .int .u64 (Sum s8 S k) ∧ Two w wr len k si s8 S) (fun _ i _ => len - (intOf i).toNat)
  case atStart => exact ⟨0, Nat.zero_le _, rfl, rfl, two_start _ _ _ _ _⟩
  case round =>
    obtain ⟨k, hk, rfl, rfl, hR⟩ := hrel
    have hsb := Sum_bd s8 S b8 hS k
    by_cases hlt : k < len
    · rcases ha with ha | ⟨b, off, rfl, hb, hc⟩
      · omega
      have e1 := hR.t k hlt
      have e2 := hR.l0 k hlt
      have e3 := hR.l1 k hlt
      have e4 := hR.l2 k hlt
      have e5 := hR.l3 k hlt
      have f1 := hR.f1
      have f2 := hR.f2
      have hck : wr.cell? ⟨b, off + k, none⟩ = some (.int .u8 (S k)) := (hR.below.cell (p := ⟨b, off + k, none⟩) hb).trans (hc k hlt)
      have hSk := hS k
      clear hc
      rw [if_neg (Nat.lt_irrefl k)] at e1 e2 e3
      have hR2 := two_step hR hlt
      have HR := hide hR2
      clear hR2 hR
      go_wp2
      go_roundw
      case rel => exact ⟨k + 1, by omega, by go_num, rfl, unhide HR⟩
      case measure => simp [intOf]; omega
    · have hkl : k = len := by omega
      subst hkl
      clear ha hm1 hm2
      go_wp2_with fail
      obtain ⟨cells, hcs, k18, k19, k21⟩ := raft_cells si s8 (w.heap.size + 1) k
      refine wp_built 80 _ cells rfl (Eq.trans (by kernel_rfl) hcs) ?_
      clear hcs
      go_wp2_with fail
      have hRs := hR.size
      have hB2 : ∀ (o : Obj), Below wr.heap.size wr ((wr.alloc (.cells cells 80)).alloc o) := fun o => ((Below.refl _ _).alloc (Nat.le_refl _) _).alloc (by simp) _
      refine (stepBack_all wr.heap.size (w.heap.size + 1) k (fun j => si + 1 + j) (fun j => Sum s8 S (j + 1)) si s8 li hint lt ts _ _ _ _ _ _ _ _ _ _ _ _ _ _ ?hAt ?hLog b0 b1 bn ?hrb ?hlb ?hmono).mono ?_
      case hAt => exact ⟨by simp [k18], by simp [k19], by simp [k21]⟩
      case hLog =>
        refine Log.below (w := wr) ⟨fun j hj => ?_, fun j hj => ?_, hR.l2, hR.l3⟩ (by omega) (hB2 _)
        · rw [hR.l0 j hj, if_pos hj]
        · rw [hR.l1 j hj, if_pos hj]
      case hrb => simp; omega
      case hlb => simp; omega
      case hmono => exact fun i j hij hj => Sum_mono s8 S hS (i + 1) (j + 1) (by omega)
      rintro e W3 ⟨r, rfl, hr, hb3⟩
      have hb3' : Below wr.heap.size wr W3 := (hB2 _).trans (hb3.mono (by simp; omega))
      have z3 := hb3.size
      simp at hb3 z3
      have q18 : W3.cell? ⟨wr.heap.size, 18, none⟩ = some (.int .u64 si) := (hb3.cell (p := ⟨wr.heap.size, 18, none⟩) (by simp; omega)).trans (by simp [k18])
      have q19 : W3.cell? ⟨wr.heap.size, 19, none⟩ = some (.int .u64 s8) := (hb3.cell (p := ⟨wr.heap.size, 19, none⟩) (by simp; omega)).trans (by simp [k19])
      have q21 : W3.cell? ⟨wr.heap.size, 21, none⟩ = some (.slice (some ⟨w.heap.size + 1, 0, none⟩) k k) := (hb3.cell (p := ⟨wr.heap.size, 21, none⟩) (by simp; omega)).trans (by simp [k21])
      have qt : ∀ j, j < k → W3.cell? ⟨w.heap.size, j, none⟩ = some (.int .u64 (Sum s8 S (j + 1))) := fun j hj => by
        rw [hb3'.cell (p := ⟨w.heap.size, j, none⟩) (by simp; omega), hR.t j hj, if_pos hj]
      have ql0 : ∀ j, j < k → W3.cell? ⟨w.heap.size + 1, j * 4, none⟩ = some (.int .u64 (si + 1 + j)) := fun j hj => by
        rw [hb3'.cell (p := ⟨w.heap.size + 1, j * 4, none⟩) (by simp; omega), hR.l0 j hj, if_pos hj]
      have ql1 : ∀ j, j < k → W3.cell? ⟨w.heap.size + 1, j * 4 + 1, none⟩ = some (.int .u64 (Sum s8 S (j + 1))) := fun j hj => by
        rw [hb3'.cell (p := ⟨w.heap.size + 1, j * 4 + 1, none⟩) (by simp; omega), hR.l1 j hj, if_pos hj]
      have hbw : Below w.heap.size w W3 := hR.below.trans (hb3'.mono (by omega))
      have HR := hide hr
      clear hr hb3 hb3' hB2 hR k18 k19 k21 hRs z3 hk hlt
      go_wp2_with fail
      refine (model_all w.heap.size k (fun j => Sum s8 S (j + 1)) si s8 li hint lt ts _ b0 b1 bn qt).mono ?_
      rintro e W4 ⟨r2, rfl, hr2, rfl⟩
      have hrr := (unhide HR).one hr2
      subst hrr
      clear hr2 HR
      go_wp2_with fail
      go_loopw [24] (fun i w5 => ∃ j q : Nat, j ≤ k ∧ i = .int .i64 j ∧ w5 = W4.drewN q) (fun i _ => k - (intOf i).toNat)
      case atStart => exact ⟨0, 0, Nat.zero_le _, rfl, rfl⟩
      case round =>
        obtain ⟨j, q, hj, rfl, rfl⟩ := hrel
        by_cases hjk : j < k
        · have c1 := qt j hjk
          have c2 := ql0 j hjk
          have c3 := ql1 j hjk
          clear qt ql0 ql1
          have hji : (j : Int) < k := by omega
          go_wp2_with fail
          go_quiet (fail)
          go_wp2_with fail
          go_roundw
          case rel => exact ⟨j + 1, _, by omega, by go_num, rfl⟩
          case measure => simp [intOf]; omega
        · clear qt ql0 ql1
          go_wp2_with fail
          go_ret
          exact ⟨rfl, below_drewN hbw _⟩

/-- Outside the law's own bounds it answers true at once. -/
theorem law_out (si s8 : Int) (a : Option Addr) (len cap : Nat) (li hint lt ts : Int) (w : World) (b0 : 0 ≤ si) (hl : len ≤ 9223372036854775807)
    (h : 1024 < len ∨ 4611686018427387904 < si) :
    Calls Yba.prog 7 #[.int .u64 si, .int .u8 s8, .slice a len cap, .int .u64 li, .int .u64 hint, .int .u64 lt, .int .u64 ts] w fun e w' => e = .returned (.bool true) ∧ Below w.heap.size w w' := by
  by_cases c : 1024 < len
  · have c' : (1024 : Int) < len := by omega
    go_enter Yba.func7, Yba.ntmps7
    go_wp2
    go_ret
    exact ⟨rfl, Below.refl _ _⟩
  · have c' : ¬ (1024 : Int) < len := by omega
    have c2 : 4611686018427387904 < si := by omega
    clear h
    go_enter Yba.func7, Yba.ntmps7
    go_wp2
    go_ret
    exact ⟨rfl, Below.refl _ _⟩

end Go.Proofs.Ybulkbrzk.Raft
