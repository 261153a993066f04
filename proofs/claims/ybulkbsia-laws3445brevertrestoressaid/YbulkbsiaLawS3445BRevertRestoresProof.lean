/-
  THE PROOF OF 'Rows.LawS3445BRevertRestoresSaid' ('engine.LawS3445BRevertRestores'): the walks are ours, the frame is the guide's template.
-/
import Derived.Test.YbulkbsiaRows
import Derived.Test.YbulkbsiaLaw3
import Derived.WalkKit
import Derived.ProofKit
import Derived.OpenShut
import Derived.ShutString
import Derived.Deep.Slices
import Derived.Deep.Strs
namespace Go.Proofs.Ybulkbsia.lawS3445BRevertRestores
open Go.ChangeShapes Go.WideShapes Go.ChangeAt Go.RowKit Go.Deep
open Go.ChangeMaps (open_string shut_string)
set_option linter.unusedVariables false

theorem own : ownKnob Yba.prog.godebug = none := by kernel_rfl
theorem laidOut : laidOutB Yba.prog = true := by kernel_rfl

theorem add_none (b off i : Nat) : (⟨b, off, none⟩ : Addr).add i = ⟨b, off + i, none⟩ := by
  by_cases h : i = 0
  · simp [Addr.add, h]
  · simp [Addr.add, h]

/-- WHAT THE WALK IS TOLD OF A SLICE OF ints: its length is within reach, and where it has elements they lie in memory. -/
def IsInts (w : World) (a : Option Addr) (len : Nat) (xs : Nat → Int) : Prop := len ≤ maxLen ∧ AM.IntsAt w.heap.size w a len xs
/-- .. of the slice of operations -/
def IsOps (w : World) (a : Option Addr) (len : Nat) (F : Nat → (Int × Int) × Int) : Prop := len ≤ maxLen ∧ AM.OpsAt w.heap.size w a len (fun j => (F j).1.1) (fun j => (F j).1.2) (fun j => (F j).2)

set_option maxRecDepth 100000 in
theorem walk (a0 a1 a2 : Option Addr) (len0 cap0 len1 cap1 len2 cap2 : Nat) (X0 X1 : Nat → Int) (P2 : Nat → (Int × Int) × Int) (w : World) (w0 : IsInts w a0 len0 X0) (w1 : IsInts w a1 len1 X1) (w2 : IsOps w a2 len2 P2) :
    Calls Yba.prog 3 #[.slice a0 len0 cap0, .slice a1 len1 cap1, .slice a2 len2 cap2] w fun e w' => e = .returned (.bool true) ∧ Below w.heap.size w w' := by
  obtain ⟨hl0, hP0⟩ := w0
  obtain ⟨hl1, hP1⟩ := w1
  obtain ⟨hl2, hP2⟩ := w2
  by_cases hb : 1024 < len0 ∨ 1024 < len1 ∨ 1024 < len2
  · unfold maxLen at hl0 hl1 hl2
    clear hP0 hP1 hP2
    by_cases b0 : 1024 < len0
    · have c' : (1024 : Int) < len0 := by omega
      go_enter Yba.func3, Yba.ntmps3
      go_wp2
      go_ret
      exact ⟨rfl, Below.refl _ _⟩
    · have d0 : decide ((1024 : Int) < len0) = false := by simp; omega
      by_cases b1 : 1024 < len1
      · have c' : (1024 : Int) < len1 := by omega
        go_enter Yba.func3, Yba.ntmps3
        go_wp2
        go_ret
        exact ⟨rfl, Below.refl _ _⟩
      · have d1 : decide ((1024 : Int) < len1) = false := by simp; omega
        have c' : (1024 : Int) < len2 := by omega
        go_enter Yba.func3, Yba.ntmps3
        go_wp2
        go_ret
        exact ⟨rfl, Below.refl _ _⟩
  · exact AM.law_in a0 a1 a2 len0 cap0 len1 cap1 len2 cap2 X0 X1 _ _ _ w (by omega) (by omega) (by omega) hP0 hP1 hP2

/-- a slice of ints opened -/
theorem ints_of {H : Type} {enc : TypeId × Value → H} {W : World} {a : Option Addr} {len cap : Nat} {d : DataW H} {p : List MemPlace} (h : DataW.Trod enc Yba.prog W 0 (fun _ => true) true 22 (.slice a len cap) d p) : ∃ X, IsInts W a len X := by
  obtain ⟨fuel, hf⟩ := h
  rcases open_slice Yba.underlying22 hf with ⟨hcs, _⟩ | ⟨x, l, c, m, n, D, Pl, hcs, _, hl, hm, hmm, _, hx⟩
  · simp [Value.cells] at hcs
    obtain ⟨rfl, rfl, rfl⟩ := hcs
    exact ⟨fun _ => 0, by decide, .inl rfl⟩
  · simp [Value.cells] at hcs
    obtain ⟨rfl, rfl, rfl⟩ := hcs
    have hlm : len ≤ m := by rw [hmm]; split <;> omega
    have ce : Yba.prog.cellsOf 3 = 1 := by kernel_rfl
    have each : ∀ i, i < len → ∃ s : Int, W.cell? (x.add i) = some (.int .i64 s) := fun i hi => by
      obtain ⟨cs', e1, e2⟩ := hx i (by omega)
      rw [ce] at e1
      obtain ⟨_, hlen, hcell⟩ := World.cells?_some e1
      match cs', hlen with
      | [u0], _ =>
        have i0 := hcell 0 (by omega)
        rw [add_add] at i0
        obtain ⟨s0, t0, _⟩ := DataW.trod_int Yba.underlying3 e2
        simp only [List.cons.injEq, and_true] at t0
        subst t0
        exact ⟨s0, by simpa using i0⟩
    obtain ⟨f, hf⟩ := choose_lt (α := Int) each
    refine ⟨f, Nat.le_trans hl hm, ?_⟩
    by_cases hz : len = 0
    · exact .inl hz
    · obtain ⟨b, off, spot⟩ := x
      have hspot : spot = none := by simpa [Addr.add] using World.cell?_spot (hf 0 (by omega))
      subst hspot
      exact .inr ⟨b, off, rfl, World.block_lt_of_cell? _ _ (hf 0 (by omega)), fun j hj => by have := hf j hj; rw [add_none] at this; exact this⟩

/-- the slice of operations opened -/
theorem ops_of {H : Type} {enc : TypeId × Value → H} {W : World} {a : Option Addr} {len cap : Nat} {d : DataW H} {p : List MemPlace} (h : DataW.Trod enc Yba.prog W 0 (fun _ => true) true 23 (.slice a len cap) d p) : ∃ F, IsOps W a len F := by
  obtain ⟨fuel, hf⟩ := h
  rcases open_slice Yba.underlying23 hf with ⟨hcs, _⟩ | ⟨x, l, c, m, n, D, Pl, hcs, _, hl, hm, hmm, _, hx⟩
  · simp [Value.cells] at hcs
    obtain ⟨rfl, rfl, rfl⟩ := hcs
    exact ⟨fun _ => ((0, 0), 0), by decide, .inl rfl⟩
  · simp [Value.cells] at hcs
    obtain ⟨rfl, rfl, rfl⟩ := hcs
    have hlm : len ≤ m := by rw [hmm]; split <;> omega
    have ce : Yba.prog.cellsOf 37 = 3 := by kernel_rfl
    have c5 : Yba.prog.cellsOf 5 = 1 := by kernel_rfl
    have c3 : Yba.prog.cellsOf 3 = 1 := by kernel_rfl
    have each : ∀ i, i < len → ∃ s : (Int × Int) × Int, (W.cell? (x.add (i * 3)) = some (.int .u8 s.1.1) ∧ W.cell? (x.add (i * 3 + 1)) = some (.int .u8 s.1.2) ∧ W.cell? (x.add (i * 3 + 2)) = some (.int .i64 s.2)) ∧ (0 ≤ s.1.1 ∧ s.1.1 ≤ 255) ∧ (0 ≤ s.1.2 ∧ s.1.2 ≤ 255) := fun i hi => by
      obtain ⟨cs', e1, e2⟩ := hx i (by omega)
      rw [ce] at e1
      obtain ⟨_, hlen, hcell⟩ := World.cells?_some e1
      obtain ⟨y0, y1, y2, k, _, _, g0, g1, g2⟩ := trod_struct3 Yba.underlying37 e2
      match cs', hlen with
      | [u0, u1, u2], _ =>
        simp [c5, c3] at g0 g1 g2
        have i0 := hcell 0 (by omega)
        have i1 := hcell 1 (by omega)
        have i2 := hcell 2 (by omega)
        rw [add_add] at i0 i1 i2
        obtain ⟨s0, t0, _, wf0⟩ := DataW.trod_int Yba.underlying5 g0
        obtain ⟨s1, t1, _, wf1⟩ := DataW.trod_int Yba.underlying5 g1
        obtain ⟨s2, t2, _, wf2⟩ := DataW.trod_int Yba.underlying3 g2
        simp only [List.cons.injEq, and_true] at t0 t1 t2
        subst t0 t1 t2
        exact ⟨((s0, s1), s2), ⟨by simpa using i0, by simpa using i1, by simpa using i2⟩, bounds_u8 wf0, bounds_u8 wf1⟩
    obtain ⟨f, hf⟩ := choose_lt (α := (Int × Int) × Int) each
    refine ⟨f, Nat.le_trans hl hm, ?_⟩
    by_cases hz : len = 0
    · exact .inl hz
    · obtain ⟨b, off, spot⟩ := x
      have hspot : spot = none := by simpa [Addr.add] using World.cell?_spot (hf 0 (by omega)).1.1
      subst hspot
      exact .inr ⟨b, off, rfl, World.block_lt_of_cell? _ _ (hf 0 (by omega)).1.1, fun j hj => by have := hf j hj; rw [add_none, add_none, add_none, ← Nat.add_assoc, ← Nat.add_assoc] at this; exact this⟩

set_option maxRecDepth 100000 in
theorem lifted (os : Os) (started : os.Started) (H : Type) (enc : TypeId × Value → H) :
    ReturnsInHanded {} Yba.checked os 3 .any (Rows.lawS3445BRevertRestoresSpec.pre6 enc Yba.prog Yba.f3 Rows.lawS3445BRevertRestoresRow.domain false) (Rows.lawS3445BRevertRestoresSpec.post enc Yba.prog Yba.f3 false true false false) := by
  refine returnsInHanded_of_change (C := Yba.checked) own started (by kernel_rfl) Yba.func3
    (ChangeSpec.witness6 (enc := enc) (C := Yba.checked) false ⟨#[], #[.slice none 0 0, .slice none 0 0, .slice none 0 0], []⟩ 8 (by kernel_rfl) (by kernel_rfl) (by kernel_rfl) (by kernel_rfl)) ?_
  intro W base args ds gs before hval0 hW hcnd _
  have hval : ∀ (j : Nat) t v, Yba.f3.params[j]? = some t → args[j]? = some v → Value.okWide Yba.prog W .any base t v := hval0
  have hW' := hW
  obtain ⟨p, q, hA0, hV, rfl, hfz, hnd⟩ := hW
  have hA : DataW.TrodAll enc Yba.prog W 0 (fun _ => true) true Yba.f3.params.toList args.toList ds p := hA0
  rw [Yba.params3] at hA hval
  obtain ⟨v0, vs0, d0, ds0, p0, q0, hargs, rfl, rfl, h0, r0⟩ := trodAll_cons hA
  obtain ⟨v1, vs1, d1, ds1, p1, q1, rfl, rfl, rfl, h1, r1⟩ := trodAll_cons r0
  obtain ⟨v2, vs2, d2, ds2, p2, q2, rfl, rfl, rfl, h2, r2⟩ := trodAll_cons r1
  obtain ⟨rfl, rfl, rfl⟩ := trodAll_nil r2
  obtain rfl : args = #[v0, v1, v2] := by cases args; simp_all
  obtain ⟨rfl, rfl⟩ := trodVars_none hV
  obtain ⟨a0, len0, cap0, rfl⟩ := okWide_slice Yba.underlying22 (hval 0 22 v0 rfl rfl)
  obtain ⟨a1, len1, cap1, rfl⟩ := okWide_slice Yba.underlying22 (hval 1 22 v1 rfl rfl)
  obtain ⟨a2, len2, cap2, rfl⟩ := okWide_slice Yba.underlying23 (hval 2 23 v2 rfl rfl)
  have k0 := h0
  have k1 := h1
  have k2 := h2
  have lt0 : ∀ x ∈ p0, x.block < W.heap.size := by obtain ⟨m, hm⟩ := k0; exact DataW.trod_lt m _ _ _ hm
  have lt1 : ∀ x ∈ p1, x.block < W.heap.size := by obtain ⟨m, hm⟩ := k1; exact DataW.trod_lt m _ _ _ hm
  have lt2 : ∀ x ∈ p2, x.block < W.heap.size := by obtain ⟨m, hm⟩ := k2; exact DataW.trod_lt m _ _ _ hm
  obtain ⟨X0, w0⟩ := ints_of h0
  obtain ⟨X1, w1⟩ := ints_of h1
  obtain ⟨P2, w2⟩ := ops_of h2
  clear hA0 hval0
  refine (walk a0 a1 a2 len0 cap0 len1 cap1 len2 cap2 X0 X1 P2 W w0 w1 w2).mono fun e W' ⟨he, bel⟩ => ?_
  subst he
  exact ⟨_, rfl, _, _, _, [], _, [], hW', trodAll_mk1 (shut_bool Yba.underlying4 _), (trodAll_cons_mk (Below.trod laidOut (by kernel_rfl) (of_decide_eq_true (by kernel_rfl)) k0 bel lt0) (trodAll_cons_mk (Below.trod laidOut (by kernel_rfl) (of_decide_eq_true (by kernel_rfl)) k1 bel lt1) (trodAll_cons_mk (Below.trod laidOut (by kernel_rfl) (of_decide_eq_true (by kernel_rfl)) k2 bel lt2) trodAll_mk0))), rfl, bel.frame _, fun h => by cases h⟩

theorem over : Rows.lawS3445BRevertRestoresRow.holds Yba.pinned (OpenSpec.ofChange Rows.lawS3445BRevertRestoresSpec) :=
  OpenClaim.holds_of_wide 3 Yba.f3 rfl rfl rfl rfl rfl rfl rfl ⟨rfl, rfl, rfl, rfl, rfl⟩ rfl rfl rfl rfl rfl (by kernel_rfl) Yba.func3 (by kernel_rfl)
    (of_decide_eq_true (by kernel_rfl)) (by unfold Func.isWrapper; first | (rw [if_pos (by decide +kernel)]; kernel_rfl) | (rw [if_neg (by decide +kernel)]; exact ⟨rfl, rfl⟩))
    (fun os started H enc _ => lifted os started H enc)

/-- ████ THE STATEMENT ████ -/
theorem proved : Rows.LawS3445BRevertRestoresSaid := over
end Go.Proofs.Ybulkbsia.lawS3445BRevertRestores
