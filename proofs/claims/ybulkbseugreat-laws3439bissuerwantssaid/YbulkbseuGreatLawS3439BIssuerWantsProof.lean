/-
  THE PROOF OF 'Rows.LawS3439BIssuerWantsSaid' ('server.LawS3439BIssuerWants'): the walks are ours, the frame is the guide's template.
-/
import Derived.Test.YbulkbseuGreatRows
import Derived.Test.YbulkbseuGreatLaw4
import Derived.WalkKit
import Derived.ProofKit
import Derived.OpenShut
import Derived.ShutString
import Derived.Deep.Slices
import Derived.Deep.Strs
namespace Go.Proofs.YbulkbseuGreat.lawS3439BIssuerWants
open Go.ChangeShapes Go.WideShapes Go.ChangeAt Go.RowKit Go.Deep
open Go.ChangeMaps (open_string shut_string)
set_option linter.unusedVariables false

theorem own : ownKnob Ybaz.prog.godebug = none := by kernel_rfl
theorem laidOut : laidOutB Ybaz.prog = true := by kernel_rfl

theorem add_none (b off i : Nat) : (⟨b, off, none⟩ : Addr).add i = ⟨b, off + i, none⟩ := by
  by_cases h : i = 0
  · simp [Addr.add, h]
  · simp [Addr.add, h]

/-- WHAT THE WALK IS TOLD OF THE SLICE: its length is within reach, and where it has elements they lie in memory as realm, name, wanted. -/
def IsSources (w : World) (a : Option Addr) (len : Nat) (F : Nat → (ByteArray × ByteArray) × Bool) : Prop := len ≤ maxLen ∧ AM.Sources w.heap.size w a len (fun j => (F j).1) (fun j => (F j).2)

set_option maxRecDepth 100000 in
theorem walk (a0 a1 : ByteArray) (a2 : Option Addr) (len2 cap2 : Nat) (P2 : Nat → (ByteArray × ByteArray) × Bool) (a3 : Bool) (a4 : Int) (w : World) (w2 : IsSources w a2 len2 P2) (w4 : (Lit.int .u8 a4).wf = true) :
    Calls Ybaz.prog 4 #[.string a0, .string a1, .slice a2 len2 cap2, .bool a3, .int .u8 a4] w fun e w' => e = .returned (.bool true) ∧ Below w.heap.size w w' := by
  obtain ⟨hl, hP⟩ := w2
  by_cases hb : 1024 < len2
  · have c' : (1024 : Int) < len2 := by omega
    unfold maxLen at hl
    go_enter Ybaz.func4, Ybaz.ntmps4
    go_wp2
    go_ret
    exact ⟨rfl, Below.refl _ _⟩
  · exact AM.issuer_in a0 a1 a2 len2 cap2 _ _ a3 a4 w (by omega) (bounds_u8 w4) hP

set_option maxRecDepth 100000 in
theorem lifted (os : Os) (started : os.Started) (H : Type) (enc : TypeId × Value → H) :
    ReturnsInHanded {} Ybaz.checked os 4 .any (Rows.lawS3439BIssuerWantsSpec.pre6 enc Ybaz.prog Ybaz.f4 Rows.lawS3439BIssuerWantsRow.domain false) (Rows.lawS3439BIssuerWantsSpec.post enc Ybaz.prog Ybaz.f4 false true false false) := by
  refine returnsInHanded_of_change (C := Ybaz.checked) own started (by kernel_rfl) Ybaz.func4
    (ChangeSpec.witness6 (enc := enc) (C := Ybaz.checked) false ⟨#[], #[.string ByteArray.empty, .string ByteArray.empty, .slice none 0 0, .bool false, .int .u8 0], []⟩ 8 (by kernel_rfl) (by kernel_rfl) (by kernel_rfl) (by kernel_rfl)) ?_
  intro W base args ds gs before hval0 hW hcnd _
  have hval : ∀ (j : Nat) t v, Ybaz.f4.params[j]? = some t → args[j]? = some v → Value.okWide Ybaz.prog W .any base t v := hval0
  have hW' := hW
  obtain ⟨p, q, hA0, hV, rfl, hfz, hnd⟩ := hW
  have hA : DataW.TrodAll enc Ybaz.prog W 0 (fun _ => true) true Ybaz.f4.params.toList args.toList ds p := hA0
  rw [Ybaz.params4] at hA hval
  obtain ⟨v0, vs0, d0, ds0, p0, q0, hargs, rfl, rfl, h0, r0⟩ := trodAll_cons hA
  obtain ⟨v1, vs1, d1, ds1, p1, q1, rfl, rfl, rfl, h1, r1⟩ := trodAll_cons r0
  obtain ⟨v2, vs2, d2, ds2, p2, q2, rfl, rfl, rfl, h2, r2⟩ := trodAll_cons r1
  obtain ⟨v3, vs3, d3, ds3, p3, q3, rfl, rfl, rfl, h3, r3⟩ := trodAll_cons r2
  obtain ⟨v4, vs4, d4, ds4, p4, q4, rfl, rfl, rfl, h4, r4⟩ := trodAll_cons r3
  obtain ⟨rfl, rfl, rfl⟩ := trodAll_nil r4
  obtain rfl : args = #[v0, v1, v2, v3, v4] := by cases args; simp_all
  obtain ⟨rfl, rfl⟩ := trodVars_none hV
  obtain ⟨a0, rfl, rfl, rfl, w0⟩ := open_string Ybaz.underlying9 (hval 0 9 v0 rfl rfl) h0
  obtain ⟨a1, rfl, rfl, rfl, w1⟩ := open_string Ybaz.underlying9 (hval 1 9 v1 rfl rfl) h1
  obtain ⟨a2, len2, cap2, rfl⟩ := okWide_slice Ybaz.underlying87 (hval 2 87 v2 rfl rfl)
  have k2 := h2
  have lt2 : ∀ x ∈ p2, x.block < W.heap.size := by obtain ⟨m, hm⟩ := k2; exact DataW.trod_lt m _ _ _ hm
  obtain ⟨P2, w2⟩ : ∃ P2, IsSources W a2 len2 P2 := by
    obtain ⟨fuel, hf⟩ := h2
    rcases open_slice Ybaz.underlying87 hf with ⟨hcs, _⟩ | ⟨x, l, c, m, n, D, Pl, hcs, _, hl, hm, hmm, _, hx⟩
    · simp [Value.cells] at hcs
      obtain ⟨rfl, rfl, rfl⟩ := hcs
      exact ⟨fun _ => ((ByteArray.empty, ByteArray.empty), false), by decide, .inl rfl⟩
    · simp [Value.cells] at hcs
      obtain ⟨rfl, rfl, rfl⟩ := hcs
      have hlm : len2 ≤ m := by rw [hmm]; split <;> omega
      have ce : Ybaz.prog.cellsOf 89 = 3 := by kernel_rfl
      have c9 : Ybaz.prog.cellsOf 9 = 1 := by kernel_rfl
      have c4 : Ybaz.prog.cellsOf 4 = 1 := by kernel_rfl
      have each : ∀ i, i < len2 → ∃ s : (ByteArray × ByteArray) × Bool, W.cell? (x.add (i * 3)) = some (.string s.1.1) ∧ W.cell? (x.add (i * 3 + 1)) = some (.string s.1.2) ∧ W.cell? (x.add (i * 3 + 2)) = some (.bool s.2) := fun i hi => by
        obtain ⟨cs', e1, e2⟩ := hx i (by omega)
        rw [ce] at e1
        obtain ⟨_, hlen, hcell⟩ := World.cells?_some e1
        obtain ⟨y0, y1, y2, k, _, _, g0, g1, g2⟩ := trod_struct3 Ybaz.underlying89 e2
        match cs', hlen with
        | [u0, u1, u2], _ =>
          simp [c9, c4] at g0 g1 g2
          have i0 := hcell 0 (by omega)
          have i1 := hcell 1 (by omega)
          have i2 := hcell 2 (by omega)
          rw [add_add] at i0 i1 i2
          obtain ⟨s0, t0, _, _⟩ := DataW.trod_string Ybaz.underlying9 g0
          obtain ⟨s1, t1, _, _⟩ := DataW.trod_string Ybaz.underlying9 g1
          obtain ⟨s2, t2, _⟩ := DataW.trod_bool Ybaz.underlying4 g2
          simp only [List.cons.injEq, and_true] at t0 t1 t2
          subst t0 t1 t2
          exact ⟨((s0, s1), s2), by simpa using i0, by simpa using i1, by simpa using i2⟩
      obtain ⟨f, hf⟩ := choose_lt (α := (ByteArray × ByteArray) × Bool) each
      refine ⟨f, Nat.le_trans hl hm, ?_⟩
      by_cases hz : len2 = 0
      · exact .inl hz
      · obtain ⟨b, off, spot⟩ := x
        have hspot : spot = none := by simpa [Addr.add] using World.cell?_spot (hf 0 (by omega)).1
        subst hspot
        exact .inr ⟨b, off, rfl, World.block_lt_of_cell? _ _ (hf 0 (by omega)).1, fun j hj => by have := hf j hj; rw [add_none, add_none, add_none, ← Nat.add_assoc, ← Nat.add_assoc] at this; exact this⟩
  obtain ⟨a3, rfl, rfl, rfl⟩ := open_bool Ybaz.underlying4 (hval 3 4 v3 rfl rfl) h3
  obtain ⟨a4, rfl, rfl, rfl, w4⟩ := open_int Ybaz.underlying5 (hval 4 5 v4 rfl rfl) h4
  clear hA0 hval0
  refine (walk a0 a1 a2 len2 cap2 P2 a3 a4 W w2 w4).mono fun e W' ⟨he, bel⟩ => ?_
  subst he
  exact ⟨_, rfl, _, _, _, [], _, [], hW', trodAll_mk1 (shut_bool Ybaz.underlying4 _), (trodAll_cons_mk (shut_string Ybaz.underlying9 w0) (trodAll_cons_mk (shut_string Ybaz.underlying9 w1) (trodAll_cons_mk (Below.trod laidOut (by kernel_rfl) (of_decide_eq_true (by kernel_rfl)) k2 bel lt2) (trodAll_cons_mk (shut_bool Ybaz.underlying4 a3) (trodAll_cons_mk (shut_int Ybaz.underlying5 w4) trodAll_mk0))))), rfl, bel.frame _, fun h => by cases h⟩

theorem over : Rows.lawS3439BIssuerWantsRow.holds Ybaz.pinned (OpenSpec.ofChange Rows.lawS3439BIssuerWantsSpec) :=
  OpenClaim.holds_of_wide 4 Ybaz.f4 rfl rfl rfl rfl rfl rfl rfl ⟨rfl, rfl, rfl, rfl, rfl⟩ rfl rfl rfl rfl rfl (by kernel_rfl) Ybaz.func4 (by kernel_rfl)
    (of_decide_eq_true (by kernel_rfl)) (by unfold Func.isWrapper; first | (rw [if_pos (by decide +kernel)]; kernel_rfl) | (rw [if_neg (by decide +kernel)]; exact ⟨rfl, rfl⟩))
    (fun os started H enc _ => lifted os started H enc)

/-- ████ THE STATEMENT ████ -/
theorem proved : Rows.LawS3439BIssuerWantsSaid := over
end Go.Proofs.YbulkbseuGreat.lawS3439BIssuerWants
