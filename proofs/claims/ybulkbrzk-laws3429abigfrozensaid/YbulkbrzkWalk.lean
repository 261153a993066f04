/-
  zzs3429awalk: it lists a tree's entries, and finds its counts right.
-/
import Derived.Test.YbulkbrzkSet
namespace Go.Proofs.Ybulkbrzk.BT
open Go Go.RowKit
set_option linter.unusedVariables false

theorem results_tmp4 {fn : Func} {t u v x : Tmp} (h : fn.results = #[.tmp t, .tmp u, .tmp v, .tmp x]) (tmps : Array Value) (P : Program) (w : World) :
    (results fn tmps).run P w = .ok (.tuple #[tmps.getD t undef, tmps.getD u undef, tmps.getD v undef, tmps.getD x undef]) w := by
  simp [results, h]

/-- append behind any row of entries, nil too -/
theorem appV (W : World) (v : Value) (n : Nat) (xs : List Value) (h : W.ownsRow 0 30 2 v n xs) (a : Addr) (m c : Nat) (news : List Value) (hl : news.length = m * 2)
    (hnews : ∀ j u, news[j]? = some u → W.cell? (a.add j) = some u) (h1 : ∀ u ∈ news, u.oneCell' = true) (hm : n + m ≤ 16384) :
    ∃ v' W', (Builtin.append_ #[27, 27] 27 #[v, .slice (some a) m c]).run Yba.prog W = .ok v' W' ∧ W'.ownsRow 0 30 2 v' (n + m) (xs ++ news) ∧ (v'.ownBlock = v.ownBlock ∨ v'.ownBlock = some W.heap.size) ∧ Fr (fun j => v.ownBlock = some j) W W' := by
  obtain ⟨i0, hi, hz0, hz1, hz2⟩ := info_parts info30
  obtain ⟨v', W3, hap, hown3, hgr3, hnil, hat⟩ := run_append_own_at (P := Yba.prog) W 0 27 27 30 i0 _ 2 24 Yba.underlying27 hi hz0 hz1 hz2 rfl (by decide) v n xs h a m c news hl hnews h1 (by unfold maxLen; omega) (by omega) (Nat.zero_le _)
  exact ⟨v', W3, hap, hown3, hat, (Fr.refl (fun j => v.ownBlock = some j) W).grown hgr3 (fun r h => .inl h)⟩

/-- a row stands where its block has not turned -/
theorem rowV_fr {S : Nat → Prop} {W W' : World} {v : Value} {n : Nat} {xs : List Value} (h : W.ownsRow 0 30 2 v n xs) (hF : Fr S W W') (h1 : ∀ b, v.ownBlock = some b → ¬ S b) : W'.ownsRow 0 30 2 v n xs := by
  refine ⟨h.1, ?_⟩
  rcases h.2 with h' | ⟨gg, cap', cur, e', hb, hg, hn⟩
  · exact .inl h'
  · refine .inr ⟨gg, cap', cur, e', hb, (hF.block _ (Array.getElem?_eq_some_iff.1 hg).1 (h1 gg (by rw [e']; rfl))).trans hg, hn⟩

/-- what walk does -/
def WalkPost (flat : List E) (ov : Value) (out : List E) (w : World) (e : Ending) (w' : World) : Prop :=
  ∃ ov', e = .returned (.tuple #[ov', .int .i64 flat.length, .int .i64 (wr (bytes flat)), .bool true]) ∧ w'.ownsRow 0 30 2 ov' (out.length + flat.length) ((out ++ flat).flatMap eCells) ∧ (ov'.ownBlock = ov.ownBlock ∨ ∃ b, ov'.ownBlock = some b ∧ w.heap.size ≤ b) ∧ Fr (fun j => ov.ownBlock = some j) w w'

set_option maxRecDepth 100000 in
set_option maxHeartbeats 8000000 in
theorem walk_leaf (g N : Nat) (t : GT 0) (w : World) (ov : Value) (out : List E) (ht : Tree g N w t) (ho : w.ownsRow 0 30 2 ov out.length (out.flatMap eCells)) (hap : ∀ b, ov.ownBlock = some b → b ≠ t.nd.b ∧ b ≠ t.nd.eb) (hl : t.flat.length ≤ 4000) (hol : out.length ≤ 4000) :
    Calls Yba.prog 16 #[t.ptr, ov] w (WalkPost t.flat ov out w) := by
  obtain ⟨cap, kv, hb, he, hk⟩ := ht.at
  have hkv : kv = .slice none 0 0 := hk
  subst hkv
  obtain ⟨b, eb, kb, gen, es⟩ := t
  change w.heap[b]? = some (nodeObj gen es.length (wr (bytes es)) (.slice (some ⟨eb, 0, none⟩) es.length cap) (.slice none 0 0)) at hb
  change w.ownsRow 0 30 2 (.slice (some ⟨eb, 0, none⟩) es.length cap) es.length (es.flatMap eCells) at he
  change es.length ≤ 4000 at hl
  change ∀ b', ov.ownBlock = some b' → b' ≠ b ∧ b' ≠ eb at hap
  have hbl := (Array.getElem?_eq_some_iff.1 hb).1
  have hebl := (he.lt eb rfl).2
  have c3 : w.cell? ⟨b, 3, none⟩ = some (.slice (some ⟨eb, 0, none⟩) es.length cap) := node_cell hb 3
  obtain ⟨Le, hLe⟩ : ∃ Le, Le = es.length := ⟨_, rfl⟩
  rw [← hLe] at c3 hl
  have hpn := fun W a => ptr_some W a
  have H0 := Lib.hid (And.intro hb (And.intro he (And.intro hLe (And.intro ho hap))))
  clear hb he hk ht ho hap hLe
  show Calls Yba.prog 16 #[.pointer (some ⟨b, 0, none⟩), ov] w (WalkPost es ov out w)
  go_enter Yba.func16, Yba.ntmps16
  go_upto_region 6 with fail
  go_loopw [9, 29] (fun y i wx => ∃ j : Nat, y = .int .i64 (wr (bytes (es.take j))) ∧ i = .int .i64 j ∧ j ≤ Le ∧ Fr (fun _ => False) w wx) (fun _ i _ => Le - (intOf i).toNat)
  case atStart => exact ⟨0, by rw [List.take_zero]; simp only [bytes]; rw [show ((0 : Nat) : Int) = 0 from rfl, wr_zero], rfl, by omega, Fr.refl _ _⟩
  case round =>
    obtain ⟨j, rfl, rfl, hjL, hFx⟩ := hrel
    rename World => Wx
    by_cases hj : j < Le
    · obtain ⟨hb, he, hLe, ho, hap⟩ := H0.out
      obtain ⟨x0, x1⟩ := entry_cells (row_fr he hFx (fun h => h)) j (by omega)
      obtain ⟨kk, hkk⟩ : ∃ kk, kk = keyAt es j := ⟨_, rfl⟩
      obtain ⟨vv, hvv⟩ : ∃ vv, vv = valAt es j := ⟨_, rfl⟩
      rw [← hkk] at x0
      rw [← hvv] at x1
      have hyn : wrap64 (wr (bytes (es.take j)) + kk.size) = wr (bytes (es.take (j + 1))) := by
        rw [wr_add1, bytes_take_succ es j (by omega), ← hkk]
        simp
      have HY := Lib.hid hyn
      have hzx := hFx.size
      clear hb he hLe ho hap hkk hvv hyn c3
      go_wp2_with fail
      go_roundw
      case rel => exact ⟨j + 1, by rw [HY.out], by go_num, by omega, hFx.alloc _⟩
      case measure => simp [intOf]; omega
    · obtain rfl : j = Le := by omega
      obtain ⟨hb, he, hLe, ho, hap⟩ := H0.out
      rw [List.take_of_length_le (by omega)]
      have bx := (hFx.block b hbl (fun h => h)).trans hb
      have ex := row_fr he hFx (fun h => h)
      have ox := rowV_fr ho hFx (fun _ _ h => h)
      obtain ⟨v', W', hrun, hown, hat, hF'⟩ := appV Wx ov out.length _ ox ⟨eb, 0, none⟩ es.length cap (es.flatMap eCells) (eCells_length es) (row_add ex) (eCells_one es) (by omega)
      have bW := (hF'.block b (Array.getElem?_eq_some_iff.1 bx).1 (fun h => (hap b h).1 rfl)).trans bx
      have c4 : Wx.cell? ⟨b, 4, none⟩ = some (.slice none 0 0) := node_cell bx 4
      have c3x : Wx.cell? ⟨b, 3, none⟩ = some (.slice (some ⟨eb, 0, none⟩) es.length cap) := node_cell bx 3
      have d1 : W'.cell? ⟨b, 1, none⟩ = some (.int .i64 es.length) := node_cell bW 1
      have d2 : W'.cell? ⟨b, 2, none⟩ = some (.int .i64 (wr (bytes es))) := node_cell bW 2
      have hkn := kids_nil Wx
      rw [← hLe] at c3x d1 hrun
      have HE := Lib.hid (And.intro hown (And.intro hat (And.intro hF' (And.intro hLe hFx))))
      clear hb he hLe ho hap bx ex ox hown hat hF' bW c3
      go_wp2_with (at_builtin; refine wpList_append_run _ rfl _ _ 27 27 rfl _ _ rfl rfl hrun ?_)
      ((try simp only [Exit.inBlock, Exit.then]); refine bodyPost_ret (results_tmp4 rfl _ _ _) rfl ?_)
      obtain ⟨hown, hat, hF', hLe, hFx⟩ := HE.out
      refine ⟨v', ?_, ?_, ?_, ?_⟩
      · rw [← hLe]; rfl
      · rw [List.flatMap_append]; exact hown
      · rcases hat with h | h
        · exact .inl h
        · exact .inr ⟨_, h, hFx.size⟩
      · exact (hFx.mono (fun _ _ h => h.elim)).trans hF' (fun _ _ h => h)
end Go.Proofs.Ybulkbrzk.BT
