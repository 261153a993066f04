/-
  zzs3429acheck.
-/
import Derived.Test.YbulkbrzkEq
namespace Go.Proofs.Ybulkbrzk.BT
open Go Go.RowKit
set_option linter.unusedVariables false

set_option maxRecDepth 100000 in
set_option maxHeartbeats 16000000 in
theorem check_in (g N : Nat) (lo up : Root) (F : List E) (fv : Value) (key : ByteArray) (w : World) (hF : F = lo.flat ++ up.flat) (h1 : w.ownsRow 0 30 2 fv F.length (F.flatMap eCells)) (hlo : RTree g N w lo) (hup : RTree g N w up) (hN : N ≤ w.heap.size) (hl : F.length ≤ 4000) (hlt : ∀ x, x ∈ lo.flat → Lt x.1 key) (hge : ∀ x, x ∈ up.flat → ¬ Lt x.1 key) :
    Calls Yba.prog 13 #[.pointer lo.pa, .pointer up.pa, fv, .string key] w fun e w' => e = .returned (.bool true) ∧ Fr (fun _ => False) w w' := by
  obtain ⟨a1, c1, rfl, hb1, hc1⟩ := rowV_open h1
  obtain ⟨L, hL⟩ : ∃ L, L = F.length := ⟨_, rfl⟩
  rw [← hL] at hb1 hc1 hl
  rw [← hL]
  have hLL : L = lo.flat.length + up.flat.length := by rw [hL, hF, List.length_append]
  have H := Lib.hid (And.intro h1 (And.intro hL (And.intro hb1 (And.intro hF (And.intro hlo (And.intro hup (And.intro hlt (And.intro hge hLL))))))))
  clear h1 hL hb1 hF hlo hup hlt hge hLL
  go_enter Yba.func13, Yba.ntmps13
  go_upto_region 3 with fail
  go_loopw [9, 10, 23] (fun u1 u2 i wx => ∃ (j : Nat) (o1 o2 : Value), o1 = u1 ∧ o2 = u2 ∧ i = .int .i64 j ∧ j ≤ L ∧ wx.ownsRow 0 30 2 o1 (lo.flat.take j).length ((lo.flat.take j).flatMap eCells) ∧ wx.ownsRow 0 30 2 o2 (up.flat.take (j - lo.flat.length)).length ((up.flat.take (j - lo.flat.length)).flatMap eCells) ∧ (∀ b, o1.ownBlock = some b → w.heap.size ≤ b ∧ o2.ownBlock ≠ some b) ∧ (∀ b, o2.ownBlock = some b → w.heap.size ≤ b) ∧ Fr (fun _ => False) w wx) (fun _ _ i _ => L - (intOf i).toNat)
  case atStart =>
    refine ⟨0, .slice none 0 0, .slice none 0 0, rfl, rfl, rfl, by omega, ?_, ?_, fun b hb => by simp [Value.ownBlock] at hb, fun b hb => by simp [Value.ownBlock] at hb, Fr.refl _ _⟩
    · exact ⟨rfl, .inl ⟨rfl, rfl⟩⟩
    · rw [Nat.zero_sub]
      exact ⟨rfl, .inl ⟨rfl, rfl⟩⟩
  case round =>
    obtain ⟨j, o1, o2, hO1, hO2, rfl, hjL, q1, q2, q3, q4, hFx⟩ := hrel
    subst hO1
    subst hO2
    rename World => Wx
    by_cases hj : j < L
    · obtain ⟨h1, hL, hb1, hF, hlo, hup, hlt, hge, hLL⟩ := H.out
      obtain ⟨b1, rfl, _⟩ := hb1 (by omega)
      rw [hL] at hj
      obtain ⟨x0, x1⟩ := entry_cells (row_fr h1 hFx (fun h => h)) j hj
      have hFj : F[j]? = some F[j] := List.getElem?_eq_getElem hj
      have hkv : (keyAt F j, valAt F j) = F[j] := val_get hj
      obtain ⟨kk, hkk⟩ : ∃ kk, kk = keyAt F j := ⟨_, rfl⟩
      obtain ⟨vv, hvv⟩ : ∃ vv, vv = valAt F j := ⟨_, rfl⟩
      rw [← hL] at hj
      rw [← hkk] at x0
      rw [← hvv] at x1
      rw [← hkk, ← hvv] at hkv
      have hbl1 := (h1.lt b1 rfl).2
      have hzx := hFx.size
      -- the entry, twice
      obtain ⟨W2, hW2⟩ : ∃ W2, W2 = (Wx.alloc (.cells #[.string kk, .int .i64 vv] 30)).alloc (.cells #[.string kk, .int .i64 vv] 30) := ⟨_, rfl⟩
      have hF2 : Fr (fun _ => False) Wx W2 := by rw [hW2]; exact ((Fr.refl _ _).alloc _).alloc _
      have o2b : W2.heap[Wx.heap.size + 1]? = some (.cells #[.string kk, .int .i64 vv] 30) := by rw [hW2]; exact alloc2 _ _ _
      have hz2 := hF2.size
      have hF02 : Fr (fun _ => False) w W2 := hFx.trans hF2 (fun _ _ h => h)
      by_cases hlow : j < lo.flat.length
      · have hmem : lo.flat[j]? = some (kk, vv) := by rw [hkv, ← hFj, hF, List.getElem?_append_left hlow]
        have hless : Op.bytesLess kk.toList key.toList = true := hlt (kk, vv) (List.mem_of_getElem? hmem)
        obtain ⟨v', W3, hrun, hown, hat, hF3⟩ := appV W2 o1 _ _ (rowV_fr q1 hF2 (fun _ _ h => h)) ⟨Wx.heap.size + 1, 0, none⟩ 1 1 [.string kk, .int .i64 vv] rfl (fun q u hu => by
          rw [addr_add, Nat.zero_add]
          simpa [World.cell?, o2b] using hu) (one2 kk vv) (by rw [List.length_take]; omega)
        rw [hW2] at hrun
        have HZ := Lib.hid (And.intro hown (And.intro hat (And.intro hF3 (And.intro hF2 (And.intro hmem (And.intro q2 (And.intro q3 (And.intro q4 hF02))))))))
        clear h1 hL hb1 hF hlo hup hlt hge hLL hFj hkv hkk hvv hW2 hF2 o2b hmem hown hat hF3 q1 q2 q3 q4 hF02
        go_wp2_with (at_builtin; refine wpList_append_run _ rfl _ _ 27 27 rfl _ _ rfl rfl hrun ?_)
        go_roundw
        case rel =>
          obtain ⟨hown, hat, hF3, hF2, hmem, q2, q3, q4, hF02⟩ := HZ.out
          have hF03 : Fr (fun _ => False) w W3 := hF02.trans hF3 (fun i hi h => by have := (q3 i h).1; omega)
          have htk : lo.flat.take (j + 1) = lo.flat.take j ++ [(kk, vv)] := by rw [List.take_add_one, hmem]; rfl
          have e0 : j + 1 - lo.flat.length = j - lo.flat.length := by omega
          have hz2 := hF2.size
          refine ⟨j + 1, v', o2, rfl, rfl, by go_num, by omega, ?_, ?_, ?_, q4, hF03⟩
          · rw [htk, List.length_append, List.flatMap_append]
            exact hown
          · rw [e0]
            exact rowV_fr (rowV_fr q2 hF2 (fun _ _ h => h)) hF3 (fun b hb h => (q3 b h).2 hb)
          · intro b hb
            rcases hat with h' | h'
            · rw [hb] at h'
              exact q3 b h'.symm
            · rw [hb] at h'
              cases h'
              refine ⟨by omega, fun h => ?_⟩
              have := (rowV_fr q2 hF2 (fun _ _ h => h)).lt W2.heap.size h
              omega
        case measure => simp [intOf]; omega
      · have hmem : up.flat[j - lo.flat.length]? = some (kk, vv) := by rw [hkv, ← hFj, hF, List.getElem?_append_right (by omega)]
        have hless : Op.bytesLess kk.toList key.toList = false := by
          have := hge (kk, vv) (List.mem_of_getElem? hmem)
          unfold Lt at this
          simpa using this
        obtain ⟨v', W3, hrun, hown, hat, hF3⟩ := appV W2 o2 _ _ (rowV_fr q2 hF2 (fun _ _ h => h)) ⟨Wx.heap.size + 1, 0, none⟩ 1 1 [.string kk, .int .i64 vv] rfl (fun q u hu => by
          rw [addr_add, Nat.zero_add]
          simpa [World.cell?, o2b] using hu) (one2 kk vv) (by rw [List.length_take]; omega)
        rw [hW2] at hrun
        have HZ := Lib.hid (And.intro hown (And.intro hat (And.intro hF3 (And.intro hF2 (And.intro hmem (And.intro q1 (And.intro q3 (And.intro q4 hF02))))))))
        clear h1 hL hb1 hF hlo hup hlt hge hLL hFj hkv hkk hvv hW2 hF2 o2b hmem hown hat hF3 q1 q2 q3 q4 hF02
        go_wp2_with (at_builtin; refine wpList_append_run _ rfl _ _ 27 27 rfl _ _ rfl rfl hrun ?_)
        go_roundw
        case rel =>
          obtain ⟨hown, hat, hF3, hF2, hmem, q1, q3, q4, hF02⟩ := HZ.out
          have hF03 : Fr (fun _ => False) w W3 := hF02.trans hF3 (fun i hi h => by have := q4 i h; omega)
          have e0 : j + 1 - lo.flat.length = (j - lo.flat.length) + 1 := by omega
          have htk : up.flat.take (j + 1 - lo.flat.length) = up.flat.take (j - lo.flat.length) ++ [(kk, vv)] := by rw [e0, List.take_add_one, hmem]; rfl
          have hz2 := hF2.size
          have q1' := rowV_fr q1 hF2 (fun _ _ h => h)
          refine ⟨j + 1, o1, v', rfl, rfl, by go_num, by omega, ?_, ?_, ?_, ?_, hF03⟩
          · rw [List.take_of_length_le (by omega)]
            rw [List.take_of_length_le (by omega)] at q1'
            exact rowV_fr q1' hF3 (fun b hb h => (q3 b hb).2 h)
          · rw [htk, List.length_append, List.flatMap_append]
            exact hown
          · intro b hb
            refine ⟨(q3 b hb).1, fun h => ?_⟩
            rcases hat with h' | h'
            · rw [h] at h'
              exact (q3 b hb).2 h'.symm
            · rw [h] at h'
              cases h'
              have := q1'.lt W2.heap.size hb
              omega
          · intro b hb
            rcases hat with h' | h'
            · rw [hb] at h'
              exact q4 b h'.symm
            · rw [hb] at h'
              cases h'
              omega
        case measure => simp [intOf]; omega
    · obtain rfl : j = L := by omega
      obtain ⟨h1, hL, hb1, hF, hlo, hup, hlt, hge, hLL⟩ := H.out
      have hzx := hFx.size
      rw [List.take_of_length_le (by omega)] at q1
      rw [List.take_of_length_le (by omega)] at q2
      have hw1 := walk_root g N lo Wx (hlo.still hFx) (by omega) (by omega)
      have HQ := Lib.hid (And.intro q1 (And.intro q2 (And.intro hup hLL)))
      clear h1 hL hb1 hF hlo hup hlt hge hLL q1 q2 q3 q4
      go_upto_region 12 with (go_at_call 16; refine hw1.mono ?_; rintro e W1 ⟨ov1, s1, y1, rfl, p1, p2, p3⟩)
      clear hw1
      obtain ⟨q1, q2, hup, hLL⟩ := HQ.out
      have hz1 := p3.size
      have hw2 := walk_root g N up W1 ((hup.still hFx).still p3) (by omega) (by omega)
      clear q1 q2 hup hLL
      go_upto_region 15 with (go_at_call 16; refine hw2.mono ?_; rintro e W2 ⟨ov2, s2, y2, rfl, r1, r2, r3⟩)
      clear hw2
      obtain ⟨q1, q2, hup, hLL⟩ := HQ.out
      have he1 := eq_in lo.flat ov1 o1 W2 (rowV_fr p1 r3 (fun _ _ h => h)) (rowV_fr (rowV_fr q1 p3 (fun _ _ h => h)) r3 (fun _ _ h => h)) (by omega)
      have he2 := fun (Wz : World) (hz : Fr (fun _ => False) W2 Wz) => eq_in up.flat ov2 o2 Wz (rowV_fr r1 hz (fun _ _ h => h)) (rowV_fr (rowV_fr (rowV_fr q2 p3 (fun _ _ h => h)) r3 (fun _ _ h => h)) hz (fun _ _ h => h)) (by omega)
      have HE := Lib.hid (And.intro p3 r3)
      clear q1 q2 hup hLL p1 p2 r1 r2
      go_wp2_with (first
        | (go_at_call 17; (with_reducible refine he1.mono ?_); rintro e W3 ⟨rfl, f3⟩)
        | (go_at_call 17; (with_reducible refine (he2 W3 f3).mono ?_); rintro e W4 ⟨rfl, f4⟩))
      go_ret
      exact ⟨rfl, (((hFx.trans HE.out.1 (fun _ _ h => h)).trans HE.out.2 (fun _ _ h => h)).trans f3 (fun _ _ h => h)).trans f4 (fun _ _ h => h)⟩
end Go.Proofs.Ybulkbrzk.BT
