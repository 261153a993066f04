/-
  join of two trees.
-/
import Derived.Test.YbulkbrzkJoin2
namespace Go.Proofs.Ybulkbrzk.BT
open Go Go.RowKit
set_option linter.unusedVariables false

set_option maxRecDepth 100000 in
set_option maxHeartbeats 16000000 in
theorem join_both {lh rh : Nat} (tb g N : Nat) (l : GT lh) (r : GT rh) (k : ByteArray) (v : Int) (w : World) (h1 : lh ≤ 4000) (h2 : rh ≤ 4000) (hg : w.cell? ⟨tb, 1, none⟩ = some (.int .u64 g)) (htb : tb ∉ l.fp g ++ r.fp g) (hN : N ≤ w.heap.size) (hl : Tree g N w l) (hr : Tree g N w r) (hnd : (l.fp g ++ r.fp g).Nodup) (hlen : (l.flat ++ (k, v) :: r.flat).length ≤ 4000) :
    Calls Yba.prog 32 #[.pointer (some ⟨tb, 0, none⟩), .pointer (some ⟨l.nd.b, 0, none⟩), .agg #[.string k, .int .i64 v], .pointer (some ⟨r.nd.b, 0, none⟩)] w (JoinedPost g N (some ⟨lh, l⟩) (some ⟨rh, r⟩) k v w) := by
  have htbl : tb < w.heap.size := World.block_lt_of_cell? _ _ hg
  obtain ⟨bx, hbx⟩ : ∃ bx, bx = w.heap.size := ⟨_, rfl⟩
  obtain ⟨W2, hW2⟩ : ∃ W2, W2 = w.alloc (.cells #[.string k, .int .i64 v] 30) := ⟨_, rfl⟩
  have hF0 : Fr (fun _ => False) w W2 := by rw [hW2]; exact (Fr.refl _ _).alloc _
  have ox : W2.heap[bx]? = some (.cells #[.string k, .int .i64 v] 30 (0, 0)) := by
    rw [hW2, hbx]
    show (w.heap.push _)[w.heap.size]? = _
    simp
  have hz0 := hF0.size
  have hlt0 : ∀ x, x ∈ l.fp g ++ r.fp g → x < w.heap.size := fun x hx => (List.mem_append.1 hx).elim (fun h => (hl.fp_lt x h).2) (fun h => (hr.fp_lt x h).2)
  have hg0 : W2.cell? ⟨tb, 1, none⟩ = some (.int .u64 g) := (hF0.cell (p := ⟨tb, 1, none⟩) htbl (fun h => h)).trans hg
  have x0 : W2.cell? ⟨bx, 0, none⟩ = some (.string k) := by simp [World.cell?, ox]
  have x1 : W2.cell? ⟨bx, 1, none⟩ = some (.int .i64 v) := by simp [World.cell?, ox]
  have tb2 : tb < W2.heap.size := by omega
  have bxl2 := (Array.getElem?_eq_some_iff.1 ox).1
  have hhl := fun (Wz : World) (hz : Fr (fun _ => False) W2 Wz) => height_in g N l Wz ((hl.still hF0).still hz) (by omega)
  have hhr := fun (Wz : World) (hz : Fr (fun _ => False) W2 Wz) => height_in g N r Wz ((hr.still hF0).still hz) (by omega)
  have hrec := fun (Wz : World) (hz : Fr (fun _ => False) W2 Wz) => join_level tb g N k v (lh + rh) lh rh (Nat.le_refl _) h1 h2 l r Wz ((hz.cell (p := ⟨tb, 1, none⟩) tb2 (fun h => h)).trans hg0) htb (by have := hz.size; omega) ((hl.still hF0).still hz) ((hr.still hF0).still hz) hnd hlen
  unfold GT.ptr at hhl hhr hrec
  have HX := Lib.hid (And.intro (fun x hx => Nat.lt_of_lt_of_le (hlt0 x hx) hz0) hnd)
  have HXn := Lib.hid (show bx ∉ l.fp g ++ r.fp g from fun hx => by have := hlt0 bx hx; omega)
  have HNW : N ≤ W2.heap.size := by omega
  have nn3 : bx ≠ W2.heap.size := by omega
  have hpi := fun W a => ptr_some W a
  obtain ⟨H, hH⟩ : ∃ H, H = max lh rh := ⟨_, rfl⟩
  rw [← hH] at hrec
  have H0 := Lib.hid (And.intro hW2 (And.intro hbx (And.intro hH (And.intro hlt0 (And.intro hnd (And.intro hg htb))))))
  have hbxw : w.heap.size ≤ bx := by omega
  clear hW2 hbx hH hlt0 hnd htb hl hr ox
  go_enter Yba.func32, Yba.ntmps32
  go_upto_region 5 with fail
  rw [← H0.out.1, ← H0.out.2.1]
  go_cut [10, 11, 12] (fun a1 a2 a3 wx => ∃ (n2 : GT H) (uk : ByteArray) (uv : Int) (po : Option Addr) (b18 : Nat), a1 = .pointer (some ⟨n2.nd.b, 0, none⟩) ∧ a2 = .pointer (some ⟨b18, 0, none⟩) ∧ a3 = .pointer po ∧ wx.heap[b18]? = some (.cells #[.string uk, .int .i64 uv] 30 (0, 0)) ∧ W2.heap.size ≤ b18 ∧ n2.nd.gen = g ∧ Tree g N wx n2 ∧ RecOf g N H (l.fp g ++ r.fp g) (l.flat ++ (k, v) :: r.flat) n2 uk uv po W2 wx)
  case first =>
    go_region_held3 (fun w' => w'.cell? ⟨bx, 0, none⟩ = some (.string k) ∧ w'.cell? ⟨bx, 1, none⟩ = some (.int .i64 v)) (first | go_keep | exact ⟨keep2 y2 nn3, keep2 y3 nn3⟩)
      (first
      | (go_at_call 54; (with_reducible refine (hhl W2.drew (Fr.refl _ W2).drew).mono ?_); rintro e w' ⟨rfl, rfl⟩)
      | (go_at_call 54; (with_reducible refine (hhr W2.drew (Fr.refl _ W2).drew).mono ?_); rintro e w' ⟨rfl, rfl⟩)
      | (go_at_call 54; (with_reducible refine (hhl (W2.alloc (.cells #[.string ⟨#[]⟩, .int .i64 0] 30)).drew (((Fr.refl _ W2).alloc _).drew)).mono ?_); rintro e w' ⟨rfl, rfl⟩)
      | (go_at_call 54; (with_reducible refine (hhr (W2.alloc (.cells #[.string ⟨#[]⟩, .int .i64 0] 30)).drew (((Fr.refl _ W2).alloc _).drew)).mono ?_); rintro e w' ⟨rfl, rfl⟩)
      | (go_at_call 53; (with_reducible refine (hrec W2.drew (Fr.refl _ W2).drew).mono ?_); rintro e w3 ⟨n2, uk, uv, po, rfl, r1, r2, r3⟩; have y2 := ((rec_fr r3).cell (p := ⟨bx, 0, none⟩) bxl2 HXn.out).trans x0; have y3 := ((rec_fr r3).cell (p := ⟨bx, 1, none⟩) bxl2 HXn.out).trans x1; unfold GT.ptr)
      | (go_at_call 53; (with_reducible refine (hrec (W2.alloc (.cells #[.string ⟨#[]⟩, .int .i64 0] 30)).drew (((Fr.refl _ W2).alloc _).drew)).mono ?_); rintro e w3 ⟨n2, uk, uv, po, rfl, r1, r2, r3⟩; have hzz := rec_zero HX.out.1 r3; have z0 := hzz.1; have z1 := hzz.2.1; have z2 := hzz.2.2.1; have z3 := hzz.2.2.2.1; have y2 := rec_cell (p := ⟨bx, 0, none⟩) r3 bxl2 HXn.out x0; have y3 := rec_cell (p := ⟨bx, 1, none⟩) r3 bxl2 HXn.out x1; clear hzz; unfold GT.ptr))
    all_goals go_wp2_with fail
    all_goals go_meet
    all_goals
      case rel =>
        first
          | exact rec_end1 HX.out.1 HX.out.2 r1 r2 r3
          | exact rec_end2 HNW HX.out.1 HX.out.2 r1 r2 r3
  case rest =>
    obtain ⟨n2, uk, uv, po, b18, rfl, rfl, rfl, o18, hb18, r1, r2, r3⟩ := hcut
    rename World => W4
    clear hrec hhl hhr x0 x1
    rcases r3 with ⟨rfl, q1, q2⟩ | ⟨s, rfl, q1, q2, q3, q4⟩
    · have hnn := ptr_neq_nil W4
      have HQ := Lib.hid (And.intro q1 q2)
      clear q1 q2
      go_wp2_with fail
      go_ret
      obtain ⟨q1, q2⟩ := HQ.out
      refine ⟨H, n2, rfl, ?_, q1, r2, (Grow.still hF0 H0.out.2.2.2.1 H0.out.2.2.2.2.1).trans q2⟩
      have := H0.out.2.2.1
      show H ≤ max lh rh + 1
      omega
    · have hnn := ptr_neq_some W4 ⟨s.nd.b, 0, none⟩
      have y0 : W4.cell? ⟨b18, 0, none⟩ = some (.string uk) := by simp [World.cell?, o18]
      have y1 : W4.cell? ⟨b18, 1, none⟩ = some (.int .i64 uv) := by simp [World.cell?, o18]
      have gw := (Grow.still hF0 H0.out.2.2.2.1 H0.out.2.2.2.2.1).trans q4
      have hg4 : W4.cell? ⟨tb, 1, none⟩ = some (.int .u64 g) := (gw.fr.cell (p := ⟨tb, 1, none⟩) htbl H0.out.2.2.2.2.2.2).trans H0.out.2.2.2.2.2.1
      have hll : n2.flat.length + 1 + s.flat.length ≤ 4000 := by
        rw [← q3] at hlen
        simp at hlen
        omega
      have hz4 := gw.fr.size
      have hrs := raise_tree tb g N n2 s uk uv W4 hg4 (by omega) r2 q2 gw.nd (by omega) (by omega)
      unfold GT.ptr at hrs
      have HQ := Lib.hid (And.intro q3 gw)
      clear q1 q2 q3 q4 gw o18 hg4
      go_wp2_with (go_at_call 25; refine hrs.mono ?_; rintro e W5 ⟨T, rfl, u1, u2, u3, u4, u5⟩)
      go_ret
      obtain ⟨q3, gw⟩ := HQ.out
      refine ⟨H + 1, T, rfl, ?_, ?_, u3, gw.trans u4⟩
      · have := H0.out.2.2.1
        show H + 1 ≤ max lh rh + 1
        omega
      · rw [u2, q3]
        rfl
end Go.Proofs.Ybulkbrzk.BT
