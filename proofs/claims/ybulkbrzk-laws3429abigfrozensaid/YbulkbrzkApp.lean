/-
  append and clear as steps, from what their runs give.
-/
import Derived.Test.YbulkbrzkOwn2
import Derived.Lib.SliceRun
namespace Go.Proofs.Ybulkbrzk.BT
open Go Go.RowKit
set_option linter.unusedVariables false

theorem wp_append_run {P : Program} (w : World) {o : Oper} {a : Act} {K : Act → World → Prop} {Q : Exit → Act → World → Prop} (d s : Operand) (t t' : TypeId)
    (ho : o.op = .call { callee := .builtin .append, args := #[d, s], argTypes := #[t, t'] }) (v u : Value) (hd : a.eval d = v) (hs : a.eval s = u) {v' : Value} {w' : World}
    (hr : (Builtin.append_ #[t, t'] o.type #[v, u]).run P w = .ok v' w') (h : K (a.put o.dst v') w') : o.wp P a w K Q := by
  unfold Oper.wp execOp
  simp only [ho, resolve, invoke, builtin, Sem.run_bind, Sem.run_pure, Result.andThen_ok, List.map_toArray, List.map_cons, List.map_nil, hd, hs, hr]
  exact h

theorem wpList_append_run {P : Program} (w : World) {ops : Array Oper} {rest : List Oper} {o : Oper} {a : Act} {Q : Exit → Act → World → Prop} (hgd : o.guard = none) (d s : Operand) (t t' : TypeId)
    (ho : o.op = .call { callee := .builtin .append, args := #[d, s], argTypes := #[t, t'] }) (v u : Value) (hd : a.eval d = v) (hs : a.eval s = u) {v' : Value} {w' : World}
    (hr : (Builtin.append_ #[t, t'] o.type #[v, u]).run P w = .ok v' w') (h : wpList P ops Q rest (a.put o.dst v') w') : wpList P ops Q (o :: rest) a w :=
  wpList_plain hgd fun _ hK => wp_append_run w d s t t' ho v u hd hs hr (hK _ _ h)

theorem wp_clear_run {P : Program} (w : World) {o : Oper} {a : Act} {K : Act → World → Prop} {Q : Exit → Act → World → Prop} (d : Operand) (t : TypeId)
    (ho : o.op = .call { callee := .builtin .clear, args := #[d], argTypes := #[t] }) (v : Value) (hd : a.eval d = v) {v' : Value} {w' : World}
    (hr : (Builtin.clear_ #[t] o.type #[v]).run P w = .ok v' w') (h : K (a.put o.dst v') w') : o.wp P a w K Q := by
  unfold Oper.wp execOp
  simp only [ho, resolve, invoke, builtin, Sem.run_bind, Sem.run_pure, Result.andThen_ok, List.map_toArray, List.map_cons, List.map_nil, hd, hr]
  exact h

theorem wpList_clear_run {P : Program} (w : World) {ops : Array Oper} {rest : List Oper} {o : Oper} {a : Act} {Q : Exit → Act → World → Prop} (hgd : o.guard = none) (d : Operand) (t : TypeId)
    (ho : o.op = .call { callee := .builtin .clear, args := #[d], argTypes := #[t] }) (v : Value) (hd : a.eval d = v) {v' : Value} {w' : World}
    (hr : (Builtin.clear_ #[t] o.type #[v]).run P w = .ok v' w') (h : wpList P ops Q rest (a.put o.dst v') w') : wpList P ops Q (o :: rest) a w :=
  wpList_plain hgd fun _ hK => wp_clear_run w d t ho v hd hr (hK _ _ h)

theorem appE (W : World) (b n cap : Nat) (xs : List Value) (h : W.ownsRow 0 30 2 (.slice (some ⟨b, 0, none⟩) n cap) n xs) (a : Addr) (m c : Nat) (news : List Value) (hl : news.length = m * 2)
    (hnews : ∀ j u, news[j]? = some u → W.cell? (a.add j) = some u) (h1 : ∀ u ∈ news, u.oneCell' = true) (hm : n + m ≤ 16384) :
    ∃ g' cap' W', (Builtin.append_ #[27, 27] 27 #[.slice (some ⟨b, 0, none⟩) n cap, .slice (some a) m c]).run Yba.prog W = .ok (.slice (some ⟨g', 0, none⟩) (n + m) cap') W' ∧
      W'.ownsRow 0 30 2 (.slice (some ⟨g', 0, none⟩) (n + m) cap') (n + m) (xs ++ news) ∧ (g' = b ∨ W.heap.size ≤ g') ∧ Fr (fun j => j = b) W W' := by
  obtain ⟨i0, hi, hz0, hz1, hz2⟩ := info_parts info30
  obtain ⟨v', W3, hap, hown3, hgr3, hnil, hat⟩ := run_append_own_at (P := Yba.prog) W 0 27 27 30 i0 _ 2 24 Yba.underlying27 hi hz0 hz1 hz2 rfl (by decide) (.slice (some ⟨b, 0, none⟩) n cap) n xs h a m c news hl hnews h1 (by unfold maxLen; omega) (by omega) (Nat.zero_le _)
  obtain ⟨g3, cap3, rfl⟩ : ∃ g3 cap3, v' = .slice (some ⟨g3, 0, none⟩) (n + m) cap3 := by
    rcases hown3.2 with ⟨h', _⟩ | ⟨g', c', cur, e', _⟩
    · have := hnil.1 h'
      simp at this
    · exact ⟨g', c', e'⟩
  exact ⟨g3, cap3, W3, hap, hown3, by simp [Value.ownBlock] at hat; omega, (Fr.refl (fun j => j = b) W).grown hgr3 (fun r h => .inl (by simp [Value.ownBlock] at h; exact h.symm))⟩

theorem appK (W : World) (b n cap : Nat) (xs : List Value) (h : W.ownsRow 0 23 1 (.slice (some ⟨b, 0, none⟩) n cap) n xs) (a : Addr) (m c : Nat) (news : List Value) (hl : news.length = m)
    (hnews : ∀ j u, news[j]? = some u → W.cell? (a.add j) = some u) (h1 : ∀ u ∈ news, u.oneCell' = true) (hm : n + m ≤ 16384) :
    ∃ g' cap' W', (Builtin.append_ #[90, 90] 90 #[.slice (some ⟨b, 0, none⟩) n cap, .slice (some a) m c]).run Yba.prog W = .ok (.slice (some ⟨g', 0, none⟩) (n + m) cap') W' ∧
      W'.ownsRow 0 23 1 (.slice (some ⟨g', 0, none⟩) (n + m) cap') (n + m) (xs ++ news) ∧ (g' = b ∨ W.heap.size ≤ g') ∧ Fr (fun j => j = b) W W' := by
  obtain ⟨i0, hi, hz0, hz1, hz2⟩ := info_parts info23
  obtain ⟨v', W3, hap, hown3, hgr3, hnil, hat⟩ := run_append_own_at (P := Yba.prog) W 0 90 90 23 i0 _ 1 8 Yba.underlying90 hi hz0 hz1 hz2 rfl (by decide) (.slice (some ⟨b, 0, none⟩) n cap) n xs h a m c news (by omega) hnews h1 (by unfold maxLen; omega) (by omega) (Nat.zero_le _)
  obtain ⟨g3, cap3, rfl⟩ : ∃ g3 cap3, v' = .slice (some ⟨g3, 0, none⟩) (n + m) cap3 := by
    rcases hown3.2 with ⟨h', _⟩ | ⟨g', c', cur, e', _⟩
    · have := hnil.1 h'
      simp at this
    · exact ⟨g', c', e'⟩
  exact ⟨g3, cap3, W3, hap, hown3, by simp [Value.ownBlock] at hat; omega, (Fr.refl (fun j => j = b) W).grown hgr3 (fun r h => .inl (by simp [Value.ownBlock] at h; exact h.symm))⟩

/-- a new row of kids, with room for 32 -/
theorem k32_row (W : World) : (W.alloc (.cells (madeCells #[.pointer none] 32) 23)).ownsRow 0 23 1 (.slice (some ⟨W.heap.size, 0, none⟩) 0 32) 0 [] := by
  refine ⟨rfl, .inr ⟨W.heap.size, 32, madeCells #[.pointer none] 32, rfl, Nat.zero_le _, ?_, by omega, by unfold maxLen; omega, by simp [madeCells], by simp⟩⟩
  show (W.heap.push _)[W.heap.size]? = _
  simp

theorem addr_add (b o j : Nat) : (⟨b, o, none⟩ : Addr).add j = ⟨b, o + j, none⟩ := by unfold Addr.add; split <;> simp_all

/-- what lies behind a row's first m elements may turn -/
theorem row_less {w w' : World} {e sz n b cap m : Nat} {xs : List Value} (h : w.ownsRow 0 e sz (.slice (some ⟨b, 0, none⟩) n cap) n xs) (hm : m ≤ n) (cs : List Value) (hc : cs.length = (n - m) * sz) :
    (w.setCells b (m * sz) cs).ownsRow 0 e sz (.slice (some ⟨b, 0, none⟩) m cap) m (xs.take (m * sz)) ∧ Fr (fun j => j = b) w (w.setCells b (m * sz) cs) := by
  obtain ⟨h1, h2, cur, hg, hs, ht⟩ := row_open h
  have hsw : ∀ (vs : List Value) (o : Nat) (w : World) (cur : Array Value), w.heap[b]? = some (.cells cur e (0, 0)) → ∃ cur' : Array Value, (w.setCells b o vs).heap[b]? = some (.cells cur' e (0, 0)) ∧ cur'.size = cur.size ∧ cur'.toList.take o = cur.toList.take o := by
    intro vs
    induction vs with
    | nil => intro o w cur h; exact ⟨cur, h, rfl, rfl⟩
    | cons v vs ih =>
      intro o w cur h
      obtain ⟨cur', e1, e2, e3⟩ := ih (o + 1) (w.setCell ⟨b, o, none⟩ v) _ (heap_setCell_same h v)
      refine ⟨cur', e1, by simpa using e2, ?_⟩
      have := congrArg (List.take o) e3
      rw [List.take_take, List.take_take, Nat.min_eq_left (by omega)] at this
      rw [this]
      simp [List.take_set_of_le]
  have hfr : ∀ (vs : List Value) (o : Nat) (w : World), Fr (fun j => j = b) w (w.setCells b o vs) := by
    intro vs
    induction vs with
    | nil => intro o w; exact Fr.refl _ _
    | cons v vs ih => intro o w; exact ((Fr.refl (fun j => j = b) w).setCell (p := ⟨b, o, none⟩) (.inl rfl) v).trans (ih (o + 1) _) (fun _ _ h => h)
  obtain ⟨cur', g1, g2, g3⟩ := hsw cs (m * sz) w cur hg
  refine ⟨⟨?_, .inr ⟨b, cap, cur', rfl, Nat.zero_le _, g1, by omega, h2, by omega, ?_⟩⟩, hfr _ _ _⟩
  · rw [List.length_take, h.1]
    exact Nat.min_eq_left (Nat.mul_le_mul_right _ hm)
  · rw [g3, ← ht, List.take_take, Nat.min_eq_left (Nat.mul_le_mul_right _ hm)]
end Go.Proofs.Ybulkbrzk.BT
