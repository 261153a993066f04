/-
  THE PROOF OF 'Rows.LawS3429ASplitMatchesModelSaid' ('kv.LawS3429ASplitMatchesModel'): the walks are ours, the frame is the guide's template (proof-skeleton.mjs).
-/
import Derived.Test.YbulkbrzkRows
import Derived.Test.YbulkbrzkLaw3
import Derived.WalkKit
import Derived.ProofKit
import Derived.OpenShut
import Derived.ShutString
import Derived.SliceStrings
import Derived.ChangeOld
import Derived.Below
namespace Go.Proofs.Ybulkbrzk.lawS3429ASplitMatchesModel
open Go.ChangeShapes Go.WideShapes Go.ChangeAt Go.RowKit
open Go.ChangeMaps (open_string shut_string)
set_option linter.unusedVariables false

theorem own : ownKnob Yba.prog.godebug = none := by kernel_rfl
theorem laidOut : laidOutB Yba.prog = true := by kernel_rfl

/-- WHAT THE WALK IS TOLD OF A SLICE OF STRINGS THAT CAME IN: it is nil; or it leads to a row of 'cap' cells, the strings 'ss'. -/
def IsStrs (w : World) (a : Option Addr) (len cap : Nat) (ss : List ByteArray) : Prop :=
  (a = none ∧ len = 0) ∨
  ∃ x, a = some x ∧ len ≤ cap ∧ ss.length = cap ∧ ∀ i, i < ss.length → w.cell? (x.add i) = some (.string (ss.getD i ByteArray.empty))

theorem walk (a0 : Option Addr) (len0 cap0 : Nat) (ss : List ByteArray) (s1 : ByteArray) (w : World) (w0 : IsStrs w a0 len0 cap0 ss) :
    Calls Yba.prog 3 #[.slice a0 len0 cap0, .string s1] w fun e w' => e = .returned (.bool true) ∧ Below w.heap.size w w' := by
  by_cases hb : 512 < len0
  · refine (BT.law3_out a0 len0 cap0 s1 w hb).mono ?_
    rintro e w' ⟨rfl, hF⟩
    exact ⟨rfl, hF.below (fun _ _ h => h)⟩
  · refine (BT.law3_in a0 len0 cap0 (fun j => ss.getD j ByteArray.empty) s1 w (by omega) ?_).mono ?_
    · rcases w0 with ⟨rfl, rfl⟩ | ⟨x, rfl, hl, hz, hc⟩
      · exact .inl rfl
      · by_cases h0 : len0 = 0
        · exact .inl h0
        · obtain ⟨b, off, spot⟩ := x
          have hspot : spot = none := by simpa [Addr.add] using World.cell?_spot (hc 0 (by omega))
          subst hspot
          have hcc : ∀ j, j < ss.length → w.cell? ⟨b, off + j, none⟩ = some (.string (ss.getD j ByteArray.empty)) := fun j hj => by rw [← Go.WideShapes.add_plain]; exact hc j hj
          exact .inr ⟨b, off, rfl, World.block_lt_of_cell? _ _ (hcc 0 (by omega)), fun j hj => hcc j (by omega)⟩
    · rintro e w' ⟨rfl, hF⟩
      exact ⟨rfl, hF.below (fun _ _ h => h)⟩

set_option maxRecDepth 100000 in
theorem lifted (os : Os) (started : os.Started) (H : Type) (enc : TypeId × Value → H) :
    ReturnsInHanded {} Yba.checked os 3 .any (Rows.lawS3429ASplitMatchesModelSpec.pre6 enc Yba.prog Yba.f3 Rows.lawS3429ASplitMatchesModelRow.domain false) (Rows.lawS3429ASplitMatchesModelSpec.post enc Yba.prog Yba.f3 false true false false) := by
  refine returnsInHanded_of_change (C := Yba.checked) own started (by kernel_rfl) Yba.func3
    (ChangeSpec.witness6 (enc := enc) (C := Yba.checked) false ⟨#[], #[.slice none 0 0, .string ⟨#[]⟩], []⟩ 8 (by kernel_rfl) (by kernel_rfl) (by kernel_rfl) (by kernel_rfl)) ?_
  intro W base args ds gs before hval0 hW hcnd _
  have hval : ∀ (j : Nat) t v, Yba.f3.params[j]? = some t → args[j]? = some v → Value.okWide Yba.prog W .any base t v := hval0
  have hW' := hW
  obtain ⟨p, q, hA0, hV, rfl, hfz, hnd⟩ := hW
  have hA : DataW.TrodAll enc Yba.prog W 0 (fun _ => true) true Yba.f3.params.toList args.toList ds p := hA0
  rw [Yba.params3] at hA hval
  obtain ⟨v0, vs0, d0, ds0, p0, q0, hargs, rfl, rfl, h0, r0⟩ := trodAll_cons hA
  obtain ⟨v1, vs1, d1, ds1, p1, q1, rfl, rfl, rfl, h1, r1⟩ := trodAll_cons r0
  obtain ⟨rfl, rfl, rfl⟩ := trodAll_nil r1
  obtain rfl : args = #[v0, v1] := by cases args; simp_all
  obtain ⟨rfl, rfl⟩ := trodVars_none hV
  obtain ⟨a0, len0, cap0, rfl⟩ := okWide_slice Yba.underlying22 (hval 0 22 v0 rfl rfl)
  have k0 := h0
  have lt0 : ∀ x ∈ p0, x.block < W.heap.size := by obtain ⟨m, hm⟩ := k0; exact DataW.trod_lt m _ _ _ hm
  obtain ⟨ss, w0⟩ : ∃ ss, IsStrs W a0 len0 cap0 ss := by
    obtain ⟨fuel, hf⟩ := h0
    rcases open_strings Yba.underlying22 Yba.underlying9 (by kernel_rfl) hf with ⟨hcs, _⟩ | ⟨x, l, c, ss, hcs, _, hl, hm, hz, _, hcell, _⟩
    · simp [Value.cells] at hcs
      obtain ⟨rfl, rfl, rfl⟩ := hcs
      exact ⟨[], .inl ⟨rfl, rfl⟩⟩
    · simp [Value.cells] at hcs
      obtain ⟨rfl, rfl, rfl⟩ := hcs
      exact ⟨ss, .inr ⟨_, rfl, hl, by simpa using hz, hcell⟩⟩
  obtain ⟨s1, rfl, rfl, rfl, w1⟩ := open_string Yba.underlying9 (hval 1 9 v1 rfl rfl) h1
  clear hA0 hval0
  refine (walk a0 len0 cap0 ss s1 W w0).mono fun e W' ⟨he, bel⟩ => ?_
  subst he
  exact ⟨_, rfl, _, _, _, [], _, [], hW', trodAll_mk1 (shut_bool Yba.underlying4 _), (trodAll_cons_mk (Below.trod laidOut (by kernel_rfl) (of_decide_eq_true (by kernel_rfl)) k0 bel lt0) (trodAll_cons_mk (shut_string Yba.underlying9 w1) trodAll_mk0)), rfl, bel.frame _, fun h => by cases h⟩

theorem over : Rows.lawS3429ASplitMatchesModelRow.holds Yba.pinned (OpenSpec.ofChange Rows.lawS3429ASplitMatchesModelSpec) :=
  OpenClaim.holds_of_wide 3 Yba.f3 rfl rfl rfl rfl rfl rfl rfl ⟨rfl, rfl, rfl, rfl, rfl⟩ rfl rfl rfl rfl rfl (by kernel_rfl) Yba.func3 (by kernel_rfl)
    (of_decide_eq_true (by kernel_rfl)) (by unfold Func.isWrapper; first | (rw [if_pos (by decide +kernel)]; kernel_rfl) | (rw [if_neg (by decide +kernel)]; exact ⟨rfl, rfl⟩))
    (fun os started H enc _ => lifted os started H enc)

/-- ████ THE STATEMENT ████ -/
theorem proved : Rows.LawS3429ASplitMatchesModelSaid := over
end Go.Proofs.Ybulkbrzk.lawS3429ASplitMatchesModel
