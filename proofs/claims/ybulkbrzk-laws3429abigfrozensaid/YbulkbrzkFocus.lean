/-
  The contracts on trees: replace; the plain laws of insert.
-/
import Derived.Test.YbulkbrzkOps2
namespace Go.Proofs.Ybulkbrzk.BT
open Go Go.RowKit
set_option linter.unusedVariables false

theorem key_get {es : List E} {j : Nat} (hj : j < es.length) : keyAt es j = es[j].1 := by simp [keyAt, List.getElem?_eq_getElem hj]

theorem Place.below {es : List E} {key : ByteArray} {i : Nat} {f : Bool} (h : Place es key i f) : ∀ x, x ∈ es.take i → Lt x.1 key := by
  intro x hx
  obtain ⟨j, hj, rfl⟩ := List.mem_take_iff_getElem.1 hx
  have := h.low j (by omega)
  rw [key_get (by omega)] at this
  exact this
theorem Place.above {es : List E} {key : ByteArray} {i : Nat} (h : Place es key i false) : ∀ x, x ∈ es.drop i → Lt key x.1 := by
  intro x hx
  obtain ⟨j, hj, rfl⟩ := List.mem_drop_iff_getElem.1 hx
  have h1 := h.high (i + j) (by omega) (by omega)
  have h2 := h.miss rfl (i + j) (by omega)
  rw [key_get (by omega)] at h1 h2
  exact Lt.total h1 h2

/-- all kids stand -/
def GT.KidsOk (g N : Nat) (W : World) : {h : Nat} → GT h → Prop
  | 0, _ => True
  | _ + 1, t => ∀ k, k ∈ t.2 → Tree g N W k

theorem Tree.kidsOk {g N : Nat} {W W' : World} {S : Nat → Prop} : {h : Nat} → {t : GT h} → Tree g N W t → (t.fp g).Nodup → Fr S W W' → (∀ i, S i → i < W.heap.size → i ∈ t.nd.own g t.kids.isSome) → t.KidsOk g N W'
  | 0, _, _, _, _, _ => trivial
  | h + 1, t, ht, hnd, hF, hS => fun k hk => by
    have hF' : Fr (fun i => S i ∧ i < W.heap.size) W W' := hF.mono (fun i hi h => ⟨h, hi⟩)
    refine (ht.2.2.2.2 k hk).fr hF' (fun i hi h => ?_) (fun x hx h => ?_)
    · have := (ht.fp_lt i (GT.fp_own t i (hS i h.1 h.2))).1
      omega
    · exact (List.nodup_append.1 hnd).2.2 x (hS x h.1 h.2) x (List.mem_flatMap.2 ⟨k, hk, hx⟩) rfl

/-- a tree with another node upon its kids -/
theorem Tree.mk' {g N : Nat} {W W' : World} : {h : Nat} → {t : GT h} → (n : Nd) → Tree g N W t → NodeAt W' n (t.withNd n).flat.length (wr (bytes (t.withNd n).flat)) t.kids.bs → n.es.length = t.nd.es.length → n.gen = g → n.lies g N t.kids.isSome → t.KidsOk g N W' → Tree g N W' (t.withNd n)
  | 0, t, n, ht, hat, hl, hgen, hlie, hk => ⟨hat, hlie⟩
  | h + 1, t, n, ht, hat, hl, hgen, hlie, hk => by
    have hat' : NodeAt W' n (weave (t.2.map GT.flat) n.es).length (wr (bytes (weave (t.2.map GT.flat) n.es))) (some ((t.2.map fun k => (k.nd.b, k.flat.length, bytes k.flat)).map (·.1))) := hat
    rw [kids_bs] at hat'
    exact ⟨hat', by show t.2.length = n.es.length + 1; rw [hl]; exact ht.2.1, hlie, fun h => (h hgen).elim, hk⟩

theorem withNd_fp {g : Nat} : {h : Nat} → (t : GT h) → (n : Nd) → n.b = t.nd.b → n.eb = t.nd.eb → n.kb = t.nd.kb → n.gen = t.nd.gen → (t.withNd n).fp g = t.fp g
  | 0, t, n, h1, h2, h3, h4 => by
    show n.own g false = t.nd.own g false
    unfold Nd.own
    rw [h1, h2, h3, h4]
  | h + 1, t, n, h1, h2, h3, h4 => by
    show n.own g true ++ _ = t.nd.own g true ++ _
    unfold Nd.own
    rw [h1, h2, h3, h4]
    rfl

theorem val_get {es : List E} {j : Nat} (hj : j < es.length) : (keyAt es j, valAt es j) = es[j] := by simp [keyAt, valAt, List.getElem?_eq_getElem hj]

theorem set_at (es : List E) (i : Nat) (x : E) (hi : i < es.length) : es.set i x = es.take i ++ x :: es.drop (i + 1) := by
  rw [List.set_eq_take_append_cons_drop, if_pos hi]

/-- an entry's value turned: the entries in order -/
theorem repl_flat {g N : Nat} {W : World} : {h : Nat} → {t : GT h} → Tree g N W t → (i : Nat) → (v : Int) → i < t.nd.es.length →
    ∃ X Y, t.flat = X ++ (keyAt t.nd.es i, valAt t.nd.es i) :: Y ∧ (t.withNd { t.nd with es := t.nd.es.set i (keyAt t.nd.es i, v) }).flat = X ++ (keyAt t.nd.es i, v) :: Y
  | 0, t, ht, i, v, hi => ⟨t.nd.es.take i, t.nd.es.drop (i + 1), split_at t.nd.es i hi, set_at _ _ _ hi⟩
  | h + 1, t, ht, i, v, hi => by
    have hkl : t.2.length = t.nd.es.length + 1 := ht.2.1
    have e2 : (t.nd.es.take i).length = i := by rw [List.length_take]; omega
    refine ⟨weave ((t.2.take (i + 1)).map GT.flat) (t.nd.es.take i), weave ((t.2.drop (i + 1)).map GT.flat) (t.nd.es.drop (i + 1)), ?_, ?_⟩
    · rw [← weave_cut _ _ _ _ _ (by rw [List.length_map, List.length_take, e2]; omega), ← List.map_append, List.take_append_drop, ← split_at t.nd.es i hi]
      rfl
    · rw [← weave_cut _ _ _ _ _ (by rw [List.length_map, List.length_take, e2]; omega), ← List.map_append, List.take_append_drop, ← set_at t.nd.es i _ hi]
      rfl

theorem repl_tree {h : Nat} (g N i : Nat) (t : GT h) (v : Int) (w : World) (ht : Tree g N w t) (hgen : t.nd.gen = g) (hnd : (t.fp g).Nodup) (hl : t.flat.length ≤ 4096) (hi : i < t.nd.es.length) (hS : Sorted t.flat) :
    Calls Yba.prog 38 #[t.ptr, .int .i64 i, .int .i64 v] w fun e w' => ∃ t' : GT h, e = .returned (.int .i64 0) ∧ t'.nd.b = t.nd.b ∧ t'.nd.gen = g ∧ t'.flat = ins (keyAt t.nd.es i) v t.flat ∧ t'.flat.length = t.flat.length ∧ bytes t'.flat = bytes t.flat ∧ Tree g N w' t' ∧ Grow (t.fp g) w w' (t'.fp g) := by
  have hfl := ht.flat_len
  have hod := own_nd hgen (GT.fp_nd hnd)
  obtain ⟨cap, kv, hb, he, hk⟩ := ht.at
  obtain ⟨X, Y, e1, e2⟩ := repl_flat ht i v hi
  refine (replace_in t.nd.b t.nd.gen t.nd.eb cap i _ _ v kv t.nd.es w hb he (by omega) hi hod.1).mono ?_
  rintro e w' ⟨rfl, n1, r1, hF⟩
  have hlen : X.length + 1 + Y.length = t.flat.length := by rw [e1]; simp; omega
  have hl2 : (t.withNd { t.nd with es := t.nd.es.set i (keyAt t.nd.es i, v) }).flat.length = t.flat.length := by rw [e2, e1]; simp
  have hb2 : bytes (t.withNd { t.nd with es := t.nd.es.set i (keyAt t.nd.es i, v) }).flat = bytes t.flat := by rw [e2, e1, bytes_append, bytes_append]; simp [bytes]
  have hown := mem_own (kid := t.kids.isSome) (n := t.nd) hgen
  have hFo : ∀ j, (j = t.nd.b ∨ j = t.nd.eb) → j < w.heap.size → j ∈ t.nd.own g t.kids.isSome := fun j h _ => by
    rcases h with rfl | rfl
    · exact hown.1
    · exact hown.2.1
  refine ⟨t.withNd { t.nd with es := t.nd.es.set i (keyAt t.nd.es i, v) }, rfl, by rw [GT.withNd_nd], by rw [GT.withNd_nd]; exact hgen, ?_, hl2, hb2, ?_, ?_⟩
  · rw [e2, e1, ins_low X _ (fun x hx => ?_), ins_hit (e := (keyAt t.nd.es i, valAt t.nd.es i)) rfl]
    rw [e1] at hS
    exact hS.cross hx (y := (keyAt t.nd.es i, valAt t.nd.es i)) (by simp)
  · refine Tree.mk' _ ht ?_ (by simp) hgen (by have := ht.lies; exact this) (ht.kidsOk hnd hF hFo)
    rw [hl2, hb2]
    refine ⟨cap, kv, ?_, ?_, hk.fr hF (fun h => ?_)⟩
    · show w'.heap[t.nd.b]? = some (.cells #[_, _, _, .slice _ (t.nd.es.set i (keyAt t.nd.es i, v)).length cap, kv] 92 (0, 0))
      rw [List.length_set]
      exact n1
    · show w'.ownsRow 0 30 2 (.slice _ (t.nd.es.set i (keyAt t.nd.es i, v)).length cap) (t.nd.es.set i (keyAt t.nd.es i, v)).length _
      rw [List.length_set]
      exact r1
    · rw [Kids.bs_isSome] at h
      have := hod.2 h
      show ¬ (t.nd.kb = t.nd.b ∨ t.nd.kb = t.nd.eb)
      omega
  · have hfe : (t.withNd { t.nd with es := t.nd.es.set i (keyAt t.nd.es i, v) }).fp g = t.fp g := withNd_fp t _ rfl rfl rfl rfl
    rw [hfe]
    exact Grow.same hF (fun j hj h => GT.fp_own t j (hFo j h hj)) (fun x hx => (ht.fp_lt x hx).2) hnd
end Go.Proofs.Ybulkbrzk.BT
