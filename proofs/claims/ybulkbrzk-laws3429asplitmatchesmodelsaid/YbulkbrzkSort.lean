/-
  slices.SortFunc over a row of entries, by key.
-/
import Derived.Test.YbulkbrzkMset
import Derived.Test.YbulkbrzkCmp
import Derived.Test.YbulkbrzkIns4
import Derived.Shelf.SlSortCmp.NoneTotal
import Derived.Shelf.Lay
import Derived.Ground.SlsfProg
namespace Go.Proofs
open Go.Shelf
set_option maxRecDepth 1000000 in
shelf_lay_g SlLaysF0.n6 Slsf 6 at Yba 9 as Yba.sortE
end Go.Proofs

namespace Go.Proofs.Ybulkbrzk.BT
open Go Go.RowKit Go.Sort
set_option linter.unusedVariables false

/-- the comparison: strings.Compare of the keys -/
def cfE (x y : E) : Int := Lib.compareBytes x.1.data.toList y.1.data.toList

theorem ltE (x y : E) : ltOf cfE x y = true ↔ Lt x.1 y.1 := by
  unfold ltOf cfE
  rcases cmp_keys x.1 y.1 with ⟨h, e⟩ | ⟨h, e⟩ | ⟨h, e⟩
  · rw [h, e]
    exact ⟨fun h => by simp at h, fun h => h.irrefl.elim⟩
  · rw [h]
    exact ⟨fun h => by simp at h, fun k => (k.asymm e).elim⟩
  · rw [h]
    exact ⟨fun _ => e, fun _ => by simp⟩
theorem ltE' (x y : E) : ltOf cfE x y = false ↔ ¬ Lt x.1 y.1 := by
  rw [← ltE]
  simp

theorem swoE : SWO (ltOf cfE) where
  irrefl x := (ltE' _ _).2 fun h => h.irrefl
  trans x y z h1 h2 := (ltE _ _).2 (((ltE _ _).1 h1).trans ((ltE _ _).1 h2))
  ntrans x y z h1 h2 := (ltE' _ _).2 fun h => by
    have n1 := (ltE' _ _).1 h1
    have n2 := (ltE' _ _).1 h2
    by_cases e : x.1 = y.1
    · rw [e] at h
      exact n2 h
    · exact n2 ((Lt.total n1 e).trans h)

set_option maxHeartbeats 1000000 in
set_option maxRecDepth 100000 in
/-- the closure, in whatever world: its two parameters are boxed -/
theorem closure10 (x y : E) (W : World) : Calls Yba.prog 10 #[.agg #[.string x.1, .int .i64 x.2], .agg #[.string y.1, .int .i64 y.2]] W fun e w' => e = .returned (.int .i64 (cfE x y)) ∧ ∃ q os', w' = grow (W.drewN q) os' := by
  have hcon := fun W' => compare_in x.1 y.1 W'
  unfold cfE
  generalize Lib.compareBytes x.1.data.toList y.1.data.toList = r at hcon ⊢
  go_enter Yba.func10, Yba.ntmps10
  go_wp2_with (go_at_call 11; refine (hcon _).mono ?_; rintro e w' ⟨rfl, rfl⟩)
  go_ret
  exact ⟨rfl, 0, _, by rw [alloc_eq_grow, alloc_eq_grow, grow_grow]; rfl⟩

theorem cmpLays10 (blk off size : Nat) (w : World) : CmpLays Yba.prog 10 #[] eCells 2 cfE blk off size w :=
  fun _ _ _ _ x y => closure10 x y _

theorem flatE (D : List E) (j : Nat) (hj : j < D.length * 2) : (D.flatMap eCells)[j]? = some ((flatK eCells 2 D.toArray)[j]!) := by
  rw [get_flatK _ _ _ _ (by simpa using hj)]
  have e : j = j / 2 * 2 + j % 2 := by omega
  have hd : j / 2 < D.length := by omega
  have hm : j % 2 < 2 := by omega
  conv => lhs; rw [e]
  rw [flat_get D (j / 2) (j % 2) hm hd]
  generalize j / 2 = a at *
  generalize j % 2 = o at *
  have e1 : D[a]?.getD (⟨#[]⟩, 0) = D[a] := by rw [List.getElem?_eq_getElem hd]; rfl
  have e2 : D.toArray[a]! = D[a] := by rw [getElem!_pos D.toArray a (by simpa using hd)]; simp
  rw [e1, e2]
  match o, hm with
  | 0, _ => rfl
  | 1, _ => rfl

/-- the row held -/
theorem holdsE {w : World} {b cap : Nat} {M : List E} (h : w.ownsRow 0 30 2 (.slice (some ⟨b, 0, none⟩) M.length cap) M.length (M.flatMap eCells)) : HoldsK eCells 2 w b 0 M.toArray := by
  intro j hj
  have hj' : j < M.length * 2 := by simpa using hj
  obtain ⟨_, _, cur, hg, _, _⟩ := row_open h
  refine ⟨?_, by simp [World.frozen?, hg]⟩
  rw [Nat.zero_add, row_cell h j hj', flatE M j hj']
  rfl

/-- the row laid anew -/
theorem sortedE {w : World} {b cap : Nat} {M D : List E} (h : w.ownsRow 0 30 2 (.slice (some ⟨b, 0, none⟩) M.length cap) M.length (M.flatMap eCells)) (hl : D.length = M.length) (n : Nat) (os : Array Obj) :
    (sortWorldK eCells 2 w b 0 n D.toArray os).ownsRow 0 30 2 (.slice (some ⟨b, 0, none⟩) M.length cap) M.length (D.flatMap eCells) ∧ Fr (fun j => j = b) w (sortWorldK eCells 2 w b 0 n D.toArray os) := by
  obtain ⟨h1, h2, cur, hg, hs, ht⟩ := row_open h
  have hb : b < w.heap.size := (Array.getElem?_eq_some_iff.1 hg).1
  have hsz : (w.heap.modify b (onCells (putCells id 0 (flatK eCells 2 D.toArray)))).size = w.heap.size := by simp
  have hget : ∀ i, i < w.heap.size → (sortWorldK eCells 2 w b 0 n D.toArray os).heap[i]? = (w.heap.modify b (onCells (putCells id 0 (flatK eCells 2 D.toArray))))[i]? := fun i hi =>
    heap_grow_old (putRowK eCells 2 (Go.Sort.ahead w n) b 0 D.toArray) os (k := i) (by show i < (w.heap.modify b _).size; rw [hsz]; exact hi)
  have hlen : (D.flatMap eCells).length = M.length * 2 := by
    rw [← hl]
    clear hget hsz hl
    induction D with
    | nil => rfl
    | cons a D ih => rw [List.flatMap_cons, List.length_append, ih, List.length_cons]; simp [eCells]; omega
  refine ⟨⟨hlen, .inr ⟨b, cap, putCells id 0 (flatK eCells 2 D.toArray) cur, rfl, Nat.zero_le _, ?_, h1, h2, by simp [putCells, hs], ?_⟩⟩, ?_⟩
  · rw [hget b hb, Array.getElem?_modify, if_pos rfl, hg]
    rfl
  · apply List.ext_getElem?
    intro j
    by_cases hj : j < M.length * 2
    · have hc : j < cur.size := by rw [hs]; omega
      rw [List.getElem?_take, if_pos hj, flatE D j (by omega)]
      simp only [putCells, Array.getElem?_toList, Array.getElem?_mapIdx, Array.getElem?_eq_getElem hc, Option.map_some]
      rw [if_pos ⟨Nat.zero_le _, by rw [size_flatK]; simp; omega⟩]
      rfl
    · rw [List.getElem?_eq_none (by simp; omega), List.getElem?_eq_none (by omega)]
  · refine ⟨rfl, rfl, rfl, ?_, fun i hi hn => ?_⟩
    · show w.heap.size ≤ (grow _ os).heap.size
      rw [size_grow]
      show _ ≤ (w.heap.modify b _).size + _
      rw [hsz]
      omega
    · rw [hget i hi, Array.getElem?_modify, if_neg (fun h => hn h.symm)]

theorem isAgg30 (w : World) : (isAgg 30).run Yba.prog w = .ok true w := by kernel_rfl

/-- slices.SortFunc lays the sorted list -/
theorem sort_in (M F : List E) (hS : Sorted F) (hp : F.Perm M) (v : Value) (w : World) (h : w.ownsRow 0 30 2 v M.length (M.flatMap eCells)) (hl : M.length ≤ 4000) :
    Calls Yba.prog 9 #[v, .func (.func 10) #[] #[]] w fun e w' => e = .returned (.tuple #[]) ∧ w'.ownsRow 0 30 2 v F.length (F.flatMap eCells) ∧ Fr (fun j => v.ownBlock = some j) w w' := by
  by_cases h0 : M.length = 0
  · have hM : M = [] := List.eq_nil_of_length_eq_zero h0
    subst hM
    have hF : F = [] := hp.eq_nil
    subst hF
    obtain ⟨p, cap, rfl⟩ : ∃ p cap, v = .slice p 0 cap := by
      rcases h.2 with ⟨rfl, _⟩ | ⟨g, cap, cur, rfl, _⟩
      · exact ⟨_, _, rfl⟩
      · exact ⟨_, _, rfl⟩
    have hcon := AnyF.slices_SortFunc_none Yba.sortE p cap (.func (.func 10) #[] #[]) w
    change Calls Yba.prog 9 _ _ _ at hcon
    refine hcon.mono ?_
    rintro e w' ⟨rfl, rfl⟩
    exact ⟨rfl, h, Fr.refl _ _⟩
  · obtain ⟨b, cap, rfl⟩ : ∃ b cap, v = .slice (some ⟨b, 0, none⟩) M.length cap := by
      rcases h.2 with ⟨_, h'⟩ | ⟨g, cap, cur, rfl, _⟩
      · exact (h0 h').elim
      · exact ⟨_, _, rfl⟩
    have hb : b < w.heap.size := by
      obtain ⟨_, _, cur, hg, _, _⟩ := row_open h
      exact (Array.getElem?_eq_some_iff.1 hg).1
    have eg : ∀ args w, (callFunc 10 args).run Yba.prog w = .ok (.enter 10 args) w := enters_of Yba.func10 (by kernel_rfl) rfl
    have hcon := AnyQ.slices_SortFunc Yba.sortE 2 isAgg30 sizeOf30 eCells (fun _ => rfl) (fun x v hv => by simp [eCells] at hv; rcases hv with rfl | rfl <;> rfl) cfE swoE 10 #[] b 0 cap M.toArray w eg (cmpLays10 b 0 M.toArray.size w) (holdsE h) hb (by simp; omega)
    change Calls Yba.prog 9 _ _ _ at hcon
    refine hcon.mono ?_
    rintro e w' ⟨rfl, d', n, os, hP, hD, rfl⟩
    obtain ⟨p1, p2, p3⟩ := hP
    have hsz : d'.size = M.length := by rw [p1]; simp
    have p4 : d'.toList.Perm M := by
      have e1 : (d'.extract 0 M.toArray.size) = d' := by rw [← p1]; simp
      have e2 : (M.toArray.extract 0 M.toArray.size) = M.toArray := by simp
      rw [e1, e2] at p3
      exact p3
    have hd : Dist d'.toList := (hS.dist.perm hp).perm p4.symm
    have hpw : d'.toList.Pairwise fun a b => ¬ Lt b.1 a.1 := List.pairwise_iff_getElem.2 fun i j hi hj hij => by
      have hi' : i < d'.size := by simpa using hi
      have hj' : j < d'.size := by simpa using hj
      have := (ltE' _ _).1 (hD i j (Nat.zero_le _) hij (by simp; omega))
      rw [getElem!_pos d' i hi', getElem!_pos d' j hj'] at this
      exact this
    have hFD : F = d'.toList := sorted_one hS (sorted_of hd hpw) (hp.trans p4.symm)
    have hR := sortedE (D := d'.toList) h (by simpa using hsz) n os
    rw [← hFD] at hR
    have e3 : F.toArray = d' := by rw [hFD]
    rw [e3] at hR
    have hll : F.length = M.length := hp.length_eq
    rw [hll]
    exact ⟨rfl, hR.1, hR.2.mono (fun i _ hi => by rw [hi]; rfl)⟩
end Go.Proofs.Ybulkbrzk.BT
