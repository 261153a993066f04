/-
  splitAt at a leaf.
-/
import Derived.Test.YbulkbrzkPart
import Derived.Deep.RegionHeld3
namespace Go.Proofs.Ybulkbrzk.BT
open Go Go.RowKit
set_option linter.unusedVariables false

/-- what splitAt does -/
def CutPost (g N Hm : Nat) (key : ByteArray) (F0 : List Nat) (flat0 : List E) (w : World) (e : Ending) (w' : World) : Prop :=
  ∃ lo up : Root, e = .returned (.tuple #[.pointer lo.pa, .pointer up.pa]) ∧ lo.height ≤ Hm ∧ up.height ≤ Hm ∧ flat0 = lo.flat ++ up.flat ∧ (∀ x, x ∈ lo.flat → Lt x.1 key) ∧ (∀ x, x ∈ up.flat → ¬ Lt x.1 key) ∧ RTree g N w' lo ∧ RTree g N w' up ∧ Grow F0 w w' (lo.fp g ++ up.fp g)

theorem Place.notBelow {es : List E} {key : ByteArray} {i : Nat} {f : Bool} (h : Place es key i f) : ∀ x, x ∈ es.drop i → ¬ Lt x.1 key := by
  intro x hx
  obtain ⟨j, hj, rfl⟩ := List.mem_drop_iff_getElem.1 hx
  have := h.high (i + j) (by omega) (by omega)
  rw [key_get (by omega)] at this
  exact this

set_option maxRecDepth 100000 in
set_option maxHeartbeats 8000000 in
theorem cut_leaf (tb g N : Nat) (t : GT 0) (key : ByteArray) (w : World) (hg : w.cell? ⟨tb, 1, none⟩ = some (.int .u64 g)) (hN : N ≤ w.heap.size) (ht : Tree g N w t) (hl : t.flat.length ≤ 4000) (hS : Sorted t.flat) :
    Calls Yba.prog 12 #[.pointer (some ⟨tb, 0, none⟩), .pointer (some ⟨t.nd.b, 0, none⟩), .string key] w (CutPost g N 0 key (t.fp g) t.flat w) := by
  obtain ⟨cap, kv, hb, he, hk⟩ := ht.at
  have hkv : kv = .slice none 0 0 := hk
  subst hkv
  have htbl : tb < w.heap.size := World.block_lt_of_cell? _ _ hg
  obtain ⟨b, eb, kb, gen, es⟩ := t
  change w.heap[b]? = some (nodeObj gen es.length (wr (bytes es)) (.slice (some ⟨eb, 0, none⟩) es.length cap) (.slice none 0 0)) at hb
  change w.ownsRow 0 30 2 (.slice (some ⟨eb, 0, none⟩) es.length cap) es.length (es.flatMap eCells) at he
  change es.length ≤ 4000 at hl
  change Sorted es at hS
  have hsr := search_in b gen eb cap es.length (wr (bytes es)) (.slice none 0 0) es key w hb he (by omega) hS
  have hbl := (Array.getElem?_eq_some_iff.1 hb).1
  have hcap := (row_open he).1
  obtain ⟨Le, hLe⟩ : ∃ Le, Le = es.length := ⟨_, rfl⟩
  rw [← hLe] at hl hcap
  have hpn := fun W a => ptr_some W a
  have H0 := Lib.hid (And.intro hb (And.intro he (And.intro hLe (And.intro hg hS))))
  clear hb he hk ht hLe hg
  show Calls Yba.prog 12 #[.pointer (some ⟨tb, 0, none⟩), .pointer (some ⟨b, 0, none⟩), .string key] w (CutPost g N 0 key _ es w)
  go_enter Yba.func12, Yba.ntmps12
  go_upto_region 4 with (go_at_call 30; refine hsr.mono ?_; rintro e w1 ⟨i, f, q, rfl, rfl, hpl⟩)
  clear hsr
  obtain ⟨W1, hW1⟩ : ∃ W1, W1 = w.drewN q := ⟨_, rfl⟩
  rw [← hW1]
  have hF1 : Fr (fun _ => False) w W1 := by rw [hW1]; exact (Fr.refl _ _).drewN _
  clear hW1
  obtain ⟨hb0, he0, hLe, hg0, hS0⟩ := H0.out
  have b1 := (hF1.block b hbl (fun h => h)).trans hb0
  have e1 := row_fr he0 hF1 (fun h => h)
  have hi : i ≤ Le := by rw [hLe]; exact hpl.le
  have hg1 : W1.cell? ⟨tb, 1, none⟩ = some (.int .u64 g) := (hF1.cell (p := ⟨tb, 1, none⟩) htbl (fun h => h)).trans hg0
  have c3 : W1.cell? ⟨b, 3, none⟩ = some (.slice (some ⟨eb, 0, none⟩) Le cap) := by rw [hLe]; exact node_cell b1 3
  have c4 : W1.cell? ⟨b, 4, none⟩ = some (.slice none 0 0) := node_cell b1 4
  have hkn := kids_nil' W1
  have bl1 := (Array.getElem?_eq_some_iff.1 b1).1
  have tbl1 : tb < W1.heap.size := World.block_lt_of_cell? _ _ hg1
  have ebl1 := (e1.lt eb rfl).2
  have hz1 := hF1.size
  have hcells : ∀ (Wz : World), Fr (fun _ => False) W1 Wz → ∀ j u, (es.flatMap eCells)[j]? = some u → Wz.cell? ⟨eb, j, none⟩ = some u := fun Wz hz j u hu => by
    have := row_add (row_fr e1 hz (fun h => h)) j u hu
    rw [addr_add, Nat.zero_add] at this
    exact this
  have hn1 := fun (Wz : World) (hz : Fr (fun _ => False) W1 Wz) => part_leaf tb g N eb 0 cap (some ⟨eb, 0, none⟩) (es.take i) Wz ((hz.cell (p := ⟨tb, 1, none⟩) tbl1 (fun h => h)).trans hg1) (by have := hz.size; omega) (fun _ => rfl) (fun j u hu => by
    rw [Nat.zero_add]
    refine hcells Wz hz j u ?_
    rw [take_flat, List.getElem?_take] at hu
    split at hu
    · exact hu
    · cases hu) (by rw [List.length_take]; omega)
  have hn2 := fun (Wz : World) (hz : Fr (fun _ => False) W1 Wz) (a : Option Addr) (cap' : Nat) (ha : es.drop i ≠ [] → a = some ⟨eb, i * 2, none⟩) => part_leaf tb g N eb (i * 2) cap' a (es.drop i) Wz ((hz.cell (p := ⟨tb, 1, none⟩) tbl1 (fun h => h)).trans hg1) (by have := hz.size; omega) ha (fun j u hu => by
    refine hcells Wz hz _ u ?_
    rw [drop_flat, List.getElem?_drop] at hu
    exact hu) (by rw [List.length_drop]; omega)
  rw [List.length_take, Nat.min_eq_left (by omega)] at hn1
  rw [List.length_drop, ← hLe] at hn2
  have hI1 : (0 : Int) ≤ (i : Int) := by omega
  have hI2 : (i : Int) ≤ (Le : Int) := by omega
  have hI3 : (Le : Int) ≤ (cap : Int) := by omega
  have hI4 : (i : Int) ≤ (cap : Int) := by omega
  have HP := Lib.hid (And.intro hpl (And.intro b1 (And.intro e1 hLe)))
  clear hb0 he0 hLe hg0 hS0 b1 e1 hpl hcells
  go_upto_region 5 with fail
  have hdn : cap = i → es.drop i = [] := fun h => List.drop_eq_nil_of_le (by have := HP.out.2.2.2; omega)
  by_cases hci : cap = i
  · have HDN := Lib.hid (hdn hci)
    clear hdn
    subst hci
    have hzz : Le - cap = 0 := by omega
    rw [hzz] at hn2
    clear hzz
    go_region_held3 (fun w' => w'.cell? ⟨b, 3, none⟩ = some (.slice (some ⟨eb, 0, none⟩) Le cap)) (go_keep)
      (first
      | (go_at_call 31; (with_reducible refine (hn1 W1.drew (Fr.refl _ W1).drew).mono ?_); rintro e wA ⟨rA, rfl, a1, a2, a3, a4, a5⟩; have y0 := (a5.cell (p := ⟨b, 3, none⟩) bl1 (fun h => h)).trans c3)
      | (go_at_call 31; (with_reducible refine (hn2 wA (((Fr.refl _ W1).drew).trans a5 (fun _ _ h => h)) _ _ ?ha).mono ?_); (case ha => exact fun h => (h HDN.out).elim); rintro e wB ⟨rB, rfl, b1, b2, b3, b4, b5⟩; have y1 := (b5.cell (p := ⟨b, 3, none⟩) (Nat.lt_of_lt_of_le bl1 a5.size) (fun h => h)).trans y0))
    all_goals go_wp2_with fail
    all_goals go_ret2
    all_goals
      have hFd : Fr (fun _ => False) w W1.drew := hF1.trans (Fr.refl _ W1).drew (fun _ _ h => h)
      have hGA : Grow [] w wA (rA.fp g) := (Grow.still (F := []) hFd (fun x hx => by cases hx) (by simp)).trans a4
      have hGB : Grow [] w wB (rA.fp g ++ rB.fp g) := by
        have q := Grow.ctx (X := rA.fp g) (Y := []) b4 (by simpa using a4.nd) (fun x hx => by
          rcases hx with hx | hx
          · exact a4.lt x hx
          · cases hx)
        simp only [List.append_nil] at q
        exact hGA.trans q
      have hpl := HP.out.1
      refine ⟨rA, rB, rfl, a1, b1, ?_, ?_, ?_, a3.still b5, b3, hGB.from (fun x hx => by cases hx)⟩
      · rw [a2, b2, List.take_append_drop]
      · rw [a2]; exact hpl.below
      · rw [b2]; exact hpl.notBelow
  · clear hdn
    go_region_held3 (fun w' => w'.cell? ⟨b, 3, none⟩ = some (.slice (some ⟨eb, 0, none⟩) Le cap)) (go_keep)
      (first
      | (go_at_call 31; (with_reducible refine (hn1 W1.drew (Fr.refl _ W1).drew).mono ?_); rintro e wA ⟨rA, rfl, a1, a2, a3, a4, a5⟩; have y0 := (a5.cell (p := ⟨b, 3, none⟩) bl1 (fun h => h)).trans c3)
      | (go_at_call 31; (with_reducible refine (hn2 wA (((Fr.refl _ W1).drew).trans a5 (fun _ _ h => h)) _ _ ?ha).mono ?_); (case ha => exact fun _ => rfl); rintro e wB ⟨rB, rfl, b1, b2, b3, b4, b5⟩; have y1 := (b5.cell (p := ⟨b, 3, none⟩) (Nat.lt_of_lt_of_le bl1 a5.size) (fun h => h)).trans y0))
    all_goals go_wp2_with fail
    all_goals go_ret2
    all_goals
      have hFd : Fr (fun _ => False) w W1.drew := hF1.trans (Fr.refl _ W1).drew (fun _ _ h => h)
      have hGA : Grow [] w wA (rA.fp g) := (Grow.still (F := []) hFd (fun x hx => by cases hx) (by simp)).trans a4
      have hGB : Grow [] w wB (rA.fp g ++ rB.fp g) := by
        have q := Grow.ctx (X := rA.fp g) (Y := []) b4 (by simpa using a4.nd) (fun x hx => by
          rcases hx with hx | hx
          · exact a4.lt x hx
          · cases hx)
        simp only [List.append_nil] at q
        exact hGA.trans q
      have hpl := HP.out.1
      refine ⟨rA, rB, rfl, a1, b1, ?_, ?_, ?_, a3.still b5, b3, hGB.from (fun x hx => by cases hx)⟩
      · rw [a2, b2, List.take_append_drop]
      · rw [a2]; exact hpl.below
      · rw [b2]; exact hpl.notBelow
end Go.Proofs.Ybulkbrzk.BT
