/-
  join.
-/
import Derived.Test.YbulkbrzkJoin
import Derived.Deep.RegionHeld3
namespace Go.Proofs.Ybulkbrzk.BT
open Go Go.RowKit
set_option linter.unusedVariables false

theorem ptr_is (W : World) (p : Option Addr) : (binOp .eql 23 (.pointer p) (.pointer none)).run Yba.prog W = .ok (.bool p.isNone) W := by
  cases p with
  | none => exact ptr_nil W
  | some a => exact ptr_some W a

theorem alloc2 (W : World) (A B : Obj) : ((W.alloc A).alloc B).heap[W.heap.size + 1]? = some B := by
  show ((W.heap.push A).push B)[W.heap.size + 1]? = _
  rw [Array.getElem?_push]
  simp
theorem alloc1 (W : World) (A B : Obj) : ((W.alloc B).alloc A).heap[W.heap.size]? = some B := heap_alloc' (by show (W.heap.push B)[W.heap.size]? = _; simp)

set_option maxRecDepth 100000 in
set_option maxHeartbeats 8000000 in
theorem join_nil (tb g N : Nat) (l r : Root) (k : ByteArray) (v : Int) (w : World) (hn : l = none ∨ r = none) (hg : w.cell? ⟨tb, 1, none⟩ = some (.int .u64 g)) (hN : N ≤ w.heap.size) (hl : RTree g N w l) (hr : RTree g N w r) (hnd : (l.fp g ++ r.fp g).Nodup) (hlen : (l.flat ++ (k, v) :: r.flat).length ≤ 4000) (hS : Sorted (l.flat ++ (k, v) :: r.flat)) :
    Calls Yba.prog 32 #[.pointer (some ⟨tb, 0, none⟩), .pointer l.pa, .agg #[.string k, .int .i64 v], .pointer r.pa] w (JoinedPost g N l r k v w) := by
  have htbl : tb < w.heap.size := World.block_lt_of_cell? _ _ hg
  obtain ⟨rr, hrr, hrp, hrf, hrh, hrt⟩ : ∃ rr : Root, (rr.flat = l.flat ++ r.flat) ∧ (if l.pa = none then r.pa else l.pa) = rr.pa ∧ rr.fp g = l.fp g ++ r.fp g ∧ rr.height ≤ max l.height r.height ∧ RTree g N w rr := by
    rcases hn with rfl | rfl
    · exact ⟨r, by simp [Root.flat], by simp [Root.pa], by simp [Root.fp], Nat.le_max_right _ _, hr⟩
    · cases l with
      | none => exact ⟨none, by simp [Root.flat], by simp [Root.pa], by simp [Root.fp], Nat.le_max_right _ _, trivial⟩
      | some t => exact ⟨some t, by simp [Root.flat], by simp [Root.pa], by simp [Root.fp], Nat.le_max_left _ _, hl⟩
  have hcond : (l.pa.isNone || r.pa.isNone) = true := by
    rcases hn with rfl | rfl
    · simp [Root.pa]
    · cases l <;> simp [Root.pa]
  obtain ⟨p0, hp0⟩ : ∃ p0, p0 = l.pa := ⟨_, rfl⟩
  obtain ⟨p1, hp1⟩ : ∃ p1, p1 = r.pa := ⟨_, rfl⟩
  rw [← hp0, ← hp1] at hcond hrp
  rw [← hp0, ← hp1]
  obtain ⟨bx, hbx⟩ : ∃ bx, bx = w.heap.size := ⟨_, rfl⟩
  obtain ⟨W0, hW0⟩ : ∃ W0, W0 = w.alloc (.cells #[.string k, .int .i64 v] 30) := ⟨_, rfl⟩
  have hF0 : Fr (fun _ => False) w W0 := by rw [hW0]; exact (Fr.refl _ _).alloc _
  have ox : W0.heap[bx]? = some (.cells #[.string k, .int .i64 v] 30 (0, 0)) := by
    rw [hW0, hbx]
    show (w.heap.push _)[w.heap.size]? = _
    simp
  have hg0 : W0.cell? ⟨tb, 1, none⟩ = some (.int .u64 g) := (hF0.cell (p := ⟨tb, 1, none⟩) htbl (fun h => h)).trans hg
  have tb0 : tb < W0.heap.size := by have := hF0.size; omega
  have hpi := fun W p => ptr_is W p
  have bxl := (Array.getElem?_eq_some_iff.1 ox).1
  have H0 := Lib.hid (And.intro hW0 (And.intro hbx (And.intro ox (And.intro hrr (And.intro hrp (And.intro hrf (And.intro hrh (And.intro hrt (And.intro hnd (And.intro hlen hS))))))))))
  clear hW0 hbx ox hrr hrp hrf hrh hrt hnd hlen hS hl hr hp0 hp1 hg hn
  go_enter Yba.func32, Yba.ntmps32
  cases p0 with
  | none =>
    go_upto_region 2 with fail
    rw [← H0.out.1, ← H0.out.2.1]
    go_cut [9] (fun a1 wx => ∃ jb, a1 = .pointer (some ⟨jb, 0, none⟩) ∧ wx.heap[jb]? = some (treeObj (.pointer p1) g) ∧ W0.heap.size ≤ jb ∧ Fr (fun _ => False) W0 wx)
    case first =>
      go_region_held3 (fun w' => w'.cell? ⟨tb, 1, none⟩ = some (.int .u64 g)) (go_keep)
        (first
        | (go_at_call 52; refine (or_in _ (none) (p1) _ (by go_simp) (by go_simp)).mono ?_; rintro e w' ⟨rfl, rfl⟩; simp only [↓reduceIte]))
      all_goals go_wp2_with fail
      all_goals go_meet
      all_goals
        case rel =>
          first
            | exact ⟨_, rfl, alloc2 _ _ _, by simp, (((Fr.refl _ W0).alloc _).alloc _).drew⟩
            | exact ⟨_, rfl, alloc1 _ _ _, by simp, (((Fr.refl _ W0).alloc _).alloc _).drew⟩
    case rest =>
      obtain ⟨jb, rfl, ojb, hjb, hF0j⟩ := hcut
      rename World => W1
      obtain ⟨hW0, hbx, ox, hrr, hrp, hrf, hrh, hrt, hnd, hlen, hS⟩ := H0.out
      have hFw1 : Fr (fun _ => False) w W1 := hF0.trans hF0j (fun _ _ h => h)
      have hz1 := hFw1.size
      have hz0 := hF0.size
      have ox1 := (hF0j.block bx bxl (fun h => h)).trans ox
      have x0 : W1.cell? ⟨bx, 0, none⟩ = some (.string k) := by simp [World.cell?, ox1]
      have x1 : W1.cell? ⟨bx, 1, none⟩ = some (.int .i64 v) := by simp [World.cell?, ox1]
      have hrt1 := hrt.still hFw1
      have hjn : jb ∉ rr.fp g := fun hx => by have := (hrt.fp_lt jb hx).2; omega
      have hrp' : p1 = rr.pa := by simpa using hrp
      have hset := set_in jb g N rr k v W1 (by rw [Root.ptr_pa, ← hrp']; exact ojb) (by omega) hjn hrt1 (by rw [hrf]; exact hnd) (by rw [hrr]; simp at hlen ⊢; omega) (by
        rw [hrr]
        refine List.Pairwise.sublist ?_ hS
        exact (List.Sublist.refl _).append (List.sublist_cons_self _ _))
      have HS := Lib.hid (And.intro hFw1 (And.intro hrr (And.intro hrf (And.intro hrh (And.intro hjn (And.intro hS hjb))))))
      clear hW0 hbx ox hrr hrp hrf hrh hrt hnd hlen hS ojb hF0j ox1 hrt1 hrp' hjn hg0 hFw1
      go_upto_region 4 with (go_at_call 8; refine hset.mono ?_; rintro e W2 ⟨h', t', rfl, s1, s2, s3, s4, s5, s6⟩)
      clear hset x0 x1
      have c0 := (tree_cell0 s5).1
      unfold GT.ptr at c0
      go_wp2_with fail
      go_ret
      obtain ⟨hFw1, hrr, hrf, hrh, hjn, hS, hjb⟩ := HS.out
      refine ⟨h', t', rfl, by omega, ?_, s4, ?_⟩
      · rw [s2, hrr, ins_mid _ _ _ _ hS]
      · have hnd' := List.nodup_cons.1 s6.nd
        refine ⟨(hFw1.mono (fun _ _ h => h.elim)).trans s6.fr (fun i hi h => ?_), fun x hx => ?_, fun x hx => s6.lt x (List.mem_cons_of_mem _ hx), hnd'.2⟩
        · rcases List.mem_cons.1 h with h | h
          · omega
          · rw [← hrf]; exact h
        · rcases s6.sub x (List.mem_cons_of_mem _ hx) with h | h
          · rcases List.mem_cons.1 h with h | h
            · subst h
              exact (hnd'.1 hx).elim
            · rw [← hrf]; exact .inl h
          · exact .inr (by omega)
  | some a0 =>
    have hp1 : p1 = none := by simpa using hcond
    subst hp1
    go_upto_region 2 with fail
    rw [← H0.out.1, ← H0.out.2.1]
    go_cut [9] (fun a1 wx => ∃ jb, a1 = .pointer (some ⟨jb, 0, none⟩) ∧ wx.heap[jb]? = some (treeObj (.pointer (some a0)) g) ∧ W0.heap.size ≤ jb ∧ Fr (fun _ => False) W0 wx)
    case first =>
      go_region_held3 (fun w' => w'.cell? ⟨tb, 1, none⟩ = some (.int .u64 g)) (go_keep)
        (first
        | (go_at_call 52; refine (or_in _ (some a0) (none) _ (by go_simp) (by go_simp)).mono ?_; rintro e w' ⟨rfl, rfl⟩; simp only [reduceCtorEq, ↓reduceIte]))
      all_goals go_wp2_with fail
      all_goals go_meet
      all_goals
        case rel =>
          first
            | exact ⟨_, rfl, alloc2 _ _ _, by simp, (((Fr.refl _ W0).alloc _).alloc _).drew⟩
            | exact ⟨_, rfl, alloc1 _ _ _, by simp, (((Fr.refl _ W0).alloc _).alloc _).drew⟩
    case rest =>
      obtain ⟨jb, rfl, ojb, hjb, hF0j⟩ := hcut
      rename World => W1
      obtain ⟨hW0, hbx, ox, hrr, hrp, hrf, hrh, hrt, hnd, hlen, hS⟩ := H0.out
      have hFw1 : Fr (fun _ => False) w W1 := hF0.trans hF0j (fun _ _ h => h)
      have hz1 := hFw1.size
      have hz0 := hF0.size
      have ox1 := (hF0j.block bx bxl (fun h => h)).trans ox
      have x0 : W1.cell? ⟨bx, 0, none⟩ = some (.string k) := by simp [World.cell?, ox1]
      have x1 : W1.cell? ⟨bx, 1, none⟩ = some (.int .i64 v) := by simp [World.cell?, ox1]
      have hrt1 := hrt.still hFw1
      have hjn : jb ∉ rr.fp g := fun hx => by have := (hrt.fp_lt jb hx).2; omega
      have hrp' : (some a0) = rr.pa := by simpa using hrp
      have hset := set_in jb g N rr k v W1 (by rw [Root.ptr_pa, ← hrp']; exact ojb) (by omega) hjn hrt1 (by rw [hrf]; exact hnd) (by rw [hrr]; simp at hlen ⊢; omega) (by
        rw [hrr]
        refine List.Pairwise.sublist ?_ hS
        exact (List.Sublist.refl _).append (List.sublist_cons_self _ _))
      have HS := Lib.hid (And.intro hFw1 (And.intro hrr (And.intro hrf (And.intro hrh (And.intro hjn (And.intro hS hjb))))))
      clear hW0 hbx ox hrr hrp hrf hrh hrt hnd hlen hS ojb hF0j ox1 hrt1 hrp' hjn hg0 hFw1
      go_upto_region 4 with (go_at_call 8; refine hset.mono ?_; rintro e W2 ⟨h', t', rfl, s1, s2, s3, s4, s5, s6⟩)
      clear hset x0 x1
      have c0 := (tree_cell0 s5).1
      unfold GT.ptr at c0
      go_wp2_with fail
      go_ret
      obtain ⟨hFw1, hrr, hrf, hrh, hjn, hS, hjb⟩ := HS.out
      refine ⟨h', t', rfl, by omega, ?_, s4, ?_⟩
      · rw [s2, hrr, ins_mid _ _ _ _ hS]
      · have hnd' := List.nodup_cons.1 s6.nd
        refine ⟨(hFw1.mono (fun _ _ h => h.elim)).trans s6.fr (fun i hi h => ?_), fun x hx => ?_, fun x hx => s6.lt x (List.mem_cons_of_mem _ hx), hnd'.2⟩
        · rcases List.mem_cons.1 h with h | h
          · omega
          · rw [← hrf]; exact h
        · rcases s6.sub x (List.mem_cons_of_mem _ hx) with h | h
          · rcases List.mem_cons.1 h with h | h
            · subst h
              exact (hnd'.1 hx).elim
            · rw [← hrf]; exact .inl h
          · exact .inr (by omega)
end Go.Proofs.Ybulkbrzk.BT
