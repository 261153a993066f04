/-
  zzs3429aeq; zzs3429acheck.
-/
import Derived.Test.YbulkbrzkRoots
namespace Go.Proofs.Ybulkbrzk.BT
open Go Go.RowKit
set_option linter.unusedVariables false

/-- a row's value: its address, its length -/
theorem rowV_open {W : World} {v : Value} {n : Nat} {xs : List Value} (h : W.ownsRow 0 30 2 v n xs) : ∃ (a : Option Addr) (cap : Nat), v = .slice a n cap ∧ (0 < n → ∃ b, a = some ⟨b, 0, none⟩ ∧ v.ownBlock = some b) ∧ n ≤ cap := by
  rcases h.2 with ⟨h1, h2⟩ | ⟨gg, cap', cur, e', hb, hg, hn, _⟩
  · subst h2
    exact ⟨none, 0, h1, fun h => by omega, Nat.le_refl _⟩
  · exact ⟨some ⟨gg, 0, none⟩, cap', e', fun _ => ⟨gg, rfl, by rw [e']; rfl⟩, hn⟩

set_option maxRecDepth 100000 in
set_option maxHeartbeats 8000000 in
theorem eq_in (es : List E) (v1 v2 : Value) (w : World) (h1 : w.ownsRow 0 30 2 v1 es.length (es.flatMap eCells)) (h2 : w.ownsRow 0 30 2 v2 es.length (es.flatMap eCells)) (hl : es.length ≤ 4000) :
    Calls Yba.prog 17 #[v1, v2] w fun e w' => e = .returned (.bool true) ∧ Fr (fun _ => False) w w' := by
  obtain ⟨a1, c1, rfl, hb1, hc1⟩ := rowV_open h1
  obtain ⟨a2, c2, rfl, hb2, hc2⟩ := rowV_open h2
  obtain ⟨L, hL⟩ : ∃ L, L = es.length := ⟨_, rfl⟩
  rw [← hL] at hb1 hb2 hc1 hc2 hl
  rw [← hL]
  have H := Lib.hid (And.intro h1 (And.intro h2 (And.intro hL (And.intro hb1 hb2))))
  clear h1 h2 hL hb1 hb2
  go_enter Yba.func17, Yba.ntmps17
  go_upto_region 4 with fail
  go_loopw [5] (fun i wx => ∃ j : Nat, i = .int .i64 j ∧ j ≤ L ∧ Fr (fun _ => False) w wx) (fun i _ => L - (intOf i).toNat)
  case atStart => exact ⟨0, rfl, by omega, Fr.refl _ _⟩
  case round =>
    obtain ⟨j, rfl, hj, hF⟩ := hrel
    rename World => Wx
    by_cases hjL : j < L
    · obtain ⟨h1, h2, hL, hb1, hb2⟩ := H.out
      obtain ⟨b1, rfl, _⟩ := hb1 (by omega)
      obtain ⟨b2, rfl, _⟩ := hb2 (by omega)
      obtain ⟨x0, x1⟩ := entry_cells (row_fr h1 hF (fun h => h)) j (by omega)
      obtain ⟨y0, y1⟩ := entry_cells (row_fr h2 hF (fun h => h)) j (by omega)
      obtain ⟨kk, hkk⟩ : ∃ kk, kk = keyAt es j := ⟨_, rfl⟩
      obtain ⟨vv, hvv⟩ : ∃ vv, vv = valAt es j := ⟨_, rfl⟩
      rw [← hkk] at x0 y0
      rw [← hvv] at x1 y1
      have hI1 : (0 : Int) ≤ (j : Int) := by omega
      have hI2 : (j : Int) < (L : Int) := by omega
      clear h1 h2 hL hb1 hb2 hkk hvv
      go_upto_region 6 with fail
      go_quiet (fail)
      go_wp2_with fail
      go_roundw
      case rel => exact ⟨j + 1, by go_num, by omega, hF.drewN _⟩
      case measure => simp [intOf]; omega
    · have hI2 : ¬ ((j : Int) < (L : Int)) := by omega
      go_wp2_with fail
      go_ret
      exact ⟨rfl, hF⟩
end Go.Proofs.Ybulkbrzk.BT
