/-
  revert: the changes are undone, the last first.
-/
import Derived.Test.YbulkbsiaBack
namespace Go.Proofs.Ybulkbsia.AM
open Go Go.MapKept Go.RowKit Go.Shelf
set_option linter.unusedVariables false
attribute [local go_sem] Oper.semAt_some

/-- a round's own box: the change's four cells -/
def ChAt (W : World) (b mb : Nat) (c : Ch) : Prop := W.cell? ⟨b, 0, none⟩ = some (.map (some (mb + c.side))) ∧ W.cell? ⟨b, 1, none⟩ = some (.int .i64 c.key) ∧ W.cell? ⟨b, 2, none⟩ = some (.int .i64 c.val) ∧ W.cell? ⟨b, 3, none⟩ = some (.bool c.held)

/-- the maps, as they stand in the world -/
def Maps (W : World) (mb : Nat) (S : Nat → Tab) : Prop := ∀ s, s < 2 → MapAt enc W (mb + s) (S s)

theorem Maps.fr {F : Nat → Prop} {W W' : World} {mb : Nat} {S : Nat → Tab} (h : Maps W mb S) (hF : Fr F W W') (hn : ∀ s, s < 2 → ¬ F (mb + s)) : Maps W' mb S := fun s hs => (h s hs).of_heap (hF.block _ (h s hs).lt (hn s hs))

theorem Maps.turn {W W' : World} {mb s : Nat} {S : Nat → Tab} {L : Tab} (h : Maps W mb S) (hL : MapAt enc W' (mb + s) L) (t : Turn W W' (mb + s)) : Maps W' mb (upd S s L) := fun j hj => by
  by_cases e : j = s
  · subst e; rw [upd_same]; exact hL
  · rw [upd_other _ _ _ e]; exact (h j hj).of_heap (t.other _ (by omega))

/-- what stands between two rounds -/
def Inv (w0 : World) (mb : Nat) (S : Nat → Tab) (pre : List (Nat × Ch)) (W : World) : Prop := Maps W mb (undoAll S (pre.map Prod.snd)) ∧ Fr (fun i => i = mb ∨ i = mb + 1) w0 W

theorem undoAll_snoc (S : Nat → Tab) (pre : List (Nat × Ch)) (x : Nat × Ch) : undoAll S ((pre ++ [x]).map Prod.snd) = undo (undoAll S (pre.map Prod.snd)) x.2 := by simp [undoAll]

theorem Turn.keeps {W W' : World} {b B : Nat} (t : Turn W W' b) (h : b < B) : KeepsFrom B W W' := ⟨Nat.le_of_eq t.size.symm, fun k o hk ho _ => (t.other k (by omega)).trans ho⟩

theorem inv_step {w0 W W' : World} {mb : Nat} {S : Nat → Tab} {pre : List (Nat × Ch)} {x : Nat × Ch} (h : Inv w0 mb S pre W) (hm : MapAt enc W' (mb + x.2.side) (turn (undoAll S (pre.map Prod.snd) x.2.side) x.2.key x.2.held x.2.val)) (t : Turn W W' (mb + x.2.side)) : Inv w0 mb S (pre ++ [x]) W' := by
  refine ⟨?_, h.2.turn t (.inl (by have := x.2.lt; omega))⟩
  rw [undoAll_snoc]
  exact h.1.turn hm t

theorem Inv.grown {w0 W W' : World} {mb : Nat} {S : Nat → Tab} {pre : List (Nat × Ch)} {row : Option Nat} (h : Inv w0 mb S pre W) (hmb : mb + 2 ≤ w0.heap.size) (hg : W.grownBy W' row) (hr : ∀ r, row = some r → w0.heap.size ≤ r) : Inv w0 mb S pre W' :=
  ⟨fun j hj => (h.1 j hj).of_heap (hg.block _ (h.1 j hj).lt (fun e => by have := hr _ e.symm; omega)), h.2.grown hg (fun r e => .inr (hr r e))⟩

set_option maxRecDepth 100000 in
set_option maxHeartbeats 4000000 in
theorem revert_in (lb mb len cap : Nat) (a : Option Addr) (f : Nat → Ch) (S : Nat → Tab) (w : World) (hlen : len ≤ 1024) (hmb : mb + 2 ≤ w.heap.size) (hl : w.cell? ⟨lb, 0, none⟩ = some (.slice a len cap)) (hM : Maps w mb S)
    (hs : len = 0 ∨ ∃ g, a = some ⟨g, 0, none⟩ ∧ g < w.heap.size ∧ g ≠ mb ∧ g ≠ mb + 1 ∧ Lies w g mb len f) :
    Calls Yba.prog 5 #[.pointer (some ⟨lb, 0, none⟩)] w fun e w' => e = .returned (.tuple #[]) ∧ Inv w mb S (backs (fun j => (j, f j)) len 0) w' := by
  refine (callsIn_wide (n := 3)).1 ?_
  refine callsIn_of_wp_marks Yba.func5 rfl trivial ?_ rfl
  simp only [Yba.ntmps5, List.size_toArray, List.length_cons, List.length_nil, Nat.reduceAdd, Nat.reduceSub, Array.replicate_succ, Array.replicate_zero, List.push_toArray, List.append_toArray, List.nil_append, List.cons_append]
  gi_wp2
  refine ⟨trivial, ?_⟩
  refine (backward_in _ _ trivial rfl _ _ _ _).mono ?_
  rintro e w' ⟨rfl, rfl⟩
  obtain ⟨W0, hW0⟩ : ∃ W0, W0 = w.alloc (.cells #[.slice a len cap] 33) := ⟨_, rfl⟩
  have z0 : W0.heap.size = w.heap.size + 1 := by rw [hW0]; simp
  have cB : W0.cell? ⟨w.heap.size, 0, none⟩ = some (.slice a len cap) := by rw [hW0]; exact World.cell?_alloc_new _ _ _ _
  have hF0 : Fr (fun i => i = mb ∨ i = mb + 1) w W0 := by rw [hW0]; exact (Fr.refl _ _).alloc _
  have hF0' : Fr (fun _ => False) w W0 := by rw [hW0]; exact (Fr.refl _ _).alloc _
  have hs0 : len = 0 ∨ ∃ g, a = some ⟨g, 0, none⟩ ∧ g < W0.heap.size ∧ g ≠ mb ∧ g ≠ mb + 1 ∧ Lies W0 g mb len f := by
    rcases hs with h | ⟨g, e, h1, h2, h3, h4⟩
    · exact .inl h
    · exact .inr ⟨g, e, by omega, h2, h3, fun j hj => ⟨(hF0'.cell (p := ⟨g, j * 4, none⟩) h1 (fun h => h)).trans (h4 j hj).1, (hF0'.cell (p := ⟨g, j * 4 + 1, none⟩) h1 (fun h => h)).trans (h4 j hj).2.1, (hF0'.cell (p := ⟨g, j * 4 + 2, none⟩) h1 (fun h => h)).trans (h4 j hj).2.2.1, (hF0'.cell (p := ⟨g, j * 4 + 3, none⟩) h1 (fun h => h)).trans (h4 j hj).2.2.2⟩⟩
  have hM0 : Maps W0 mb S := hM.fr hF0' (fun _ _ h => h)
  gi_wp2
  rw [← hW0]
  clear hW0
  refine wpIn_rangeFunc_ownH rfl (by decide) (gf := 7) (lb := #[.pointer (some ⟨w.heap.size, 0, none⟩)]) rfl trivial (enters_of Yba.func7 (by kernel_rfl) rfl)
    (back_stops Fence.wide 2 trivial rfl (by decide) w.heap.size mb len cap a f hlen W0 ⟨by omega, by omega, by omega⟩ hs0 cB) (fun h k => h.trans k)
    (fun W l o o' hl h hc _ => Fr.grown (Fr.refl _ _) (grownBy_putObj' W l o') (fun r e => by cases e; exact .inl (.inr (.inr hl)))) (Below.refl _ _) (fun _ => rfl)
    (Inv w mb S) (fun _ _ _ => False)
    (fun s A B row hs hg hr => hs.grown hmb hg (fun r e => by have := (hr r e).1; omega))
    (fun _ _ _ _ _ hs _ _ => hs)
    ⟨by simpa [undoAll] using hM0, hF0⟩
    (fun x a' W => ∃ Bx, ChAt W Bx mb x.2 ∧ a' = { tmps := #[.pointer (some ⟨lb, 0, none⟩), undef, undef, .pointer (some ⟨Bx, 0, none⟩), .pointer (some ⟨lb, 0, none⟩), .pointer (some ⟨lb, 0, none⟩), .pointer (some ⟨lb, 0, none⟩), .slice a len cap, .func (.func 7) #[] #[.pointer (some ⟨w.heap.size, 0, none⟩)], .int .i64 (x.1 : Int), chVal mb x.2, undef, undef, undef, undef, undef, undef, undef, undef, undef, undef, undef, undef], defers := [] })
    (fun x a' _ X Y row hs hg hr => by
      obtain ⟨Bx, ⟨q0, q1, q2, q3⟩, h3⟩ := hs
      exact ⟨Bx, ⟨cell_kept q0 hg (fun r e => (hr r e).2), cell_kept q1 hg (fun r e => (hr r e).2), cell_kept q2 hg (fun r e => (hr r e).2), cell_kept q3 hg (fun r e => (hr r e).2)⟩, h3⟩)
    ?assign ?body ?done ?stop
  case assign =>
    rintro l pre ⟨i, c⟩ W K hi hK
    have hcv : chVal mb c = .agg #[.map (some (mb + c.side)), .int .i64 c.key, .int .i64 c.val, .bool c.held] := rfl
    gi_wp2
    exact hK _ _ ((KeepsOthers.alloc _ _).from _) ((Fr.refl _ _).alloc _) (hi.grown hmb (World.grownBy_alloc W _ none) (fun r e => by cases e)) ⟨W.heap.size, ⟨World.cell?_alloc_new _ _ _ _, World.cell?_alloc_new _ _ _ _, World.cell?_alloc_new _ _ _ _, World.cell?_alloc_new _ _ _ _⟩, rfl⟩
  case body =>
    rintro l pre ⟨i, c⟩ a' W hl ⟨r, hr⟩ hI ⟨Bx, ⟨q0, q1, q2, q3⟩, rfl⟩ hlt
    have hm := hI.1 c.side c.lt
    have hsl := c.lt
    cases hh : c.held with
    | true =>
      obtain ⟨W', hst, hM', hT⟩ := run_store keys3 Yba.underlying24 W (mb + c.side) _ c.key (.int .i64 c.val) hm
      have hst' : (Instr.mapUpdate 24 (.map (some (mb + c.side))) (.int .i64 c.key) (.int .i64 c.val)).run Yba.prog W = .ok () W' := hst
      dsimp only at q0 q1 q2 q3
      rw [hh] at q3
      have Hend := Lib.hid (And.intro (hT.keeps (B := W0.heap.size) (by omega)) (And.intro ((Fr.refl (fun i => i = mb ∨ i = mb + 1 ∨ W0.heap.size ≤ i) W).turn hT (.inl (by omega))) (inv_step (x := (i, c)) hI (by unfold turn; dsimp only; rw [hh]; exact hM') hT)))
      clear hst hM' hT hm hI
      gi_wp2
      exact ⟨Hend.out.1, Hend.out.2.1, Hend.out.2.2⟩
    | false =>
      obtain ⟨W', hst, hM', hT⟩ := run_drop keys3 Yba.underlying24 #[24, 3] rfl 0 W (mb + c.side) _ c.key hm
      have hst' : (Builtin.delete_ #[24, 3] 0 #[.map (some (mb + c.side)), .int .i64 c.key]).run Yba.prog W = .ok (.tuple #[]) W' := hst
      dsimp only at q0 q1 q2 q3
      rw [hh] at q3
      have Hend := Lib.hid (And.intro (hT.keeps (B := W0.heap.size) (by omega)) (And.intro ((Fr.refl (fun i => i = mb ∨ i = mb + 1 ∨ W0.heap.size ≤ i) W).turn hT (.inl (by omega))) (inv_step (x := (i, c)) hI (by unfold turn; dsimp only; rw [hh]; exact hM') hT)))
      clear hst hM' hT hm hI
      gi_wp2
      exact ⟨Hend.out.1, Hend.out.2.1, Hend.out.2.2⟩
  case done =>
    rintro D ys W hD rfl hI hK
    gi_wp2
    refine ⟨by simp, .inl ⟨_, _, rfl, run_takeDeferred hK, ?_⟩⟩
    exact ⟨_, results_none rfl _ _ _, rfl, hI.grown hmb (grownBy_putObj' W D _) (fun r e => by cases e; omega)⟩
  case stop =>
    rintro D c pre W _ _ h _
    exact h.elim
end Go.Proofs.Ybulkbsia.AM
