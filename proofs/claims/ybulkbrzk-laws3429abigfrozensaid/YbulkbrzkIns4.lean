/-
  slices.Insert of one element: the roads joined.
-/
import Derived.Test.YbulkbrzkIns3
namespace Go.Proofs.Ybulkbrzk.BT
open Go Go.RowKit
set_option linter.unusedVariables false

theorem row_open {w : World} {e sz n eb cap : Nat} {xs : List Value} (h : w.ownsRow 0 e sz (.slice (some ⟨eb, 0, none⟩) n cap) n xs) :
    n ≤ cap ∧ cap ≤ maxLen ∧ ∃ cur : Array Value, w.heap[eb]? = some (.cells cur e (0, 0)) ∧ cur.size = cap * sz ∧ cur.toList.take (n * sz) = xs := by
  rcases h.2 with ⟨h', _⟩ | ⟨g, cap', cur, e', hb, hg, hn, hm, hs, ht⟩
  · cases h'
  · simp at e'
    obtain ⟨rfl, rfl⟩ := e'
    exact ⟨hn, hm, cur, hg, hs, ht⟩

theorem row_succ {w : World} {e sz n : Nat} {v : Value} {xs : List Value} (h : w.ownsRow 0 e sz v (n + 1) xs) : ∃ g cap, v = .slice (some ⟨g, 0, none⟩) (n + 1) cap := by
  rcases h.2 with ⟨_, h'⟩ | ⟨g, cap', cur, e', _⟩
  · cases h'
  · exact ⟨g, cap', e'⟩

theorem insE_in (eb n cap i vb : Nat) (xs c : List Value) (w : World) (hown : w.ownsRow 0 30 2 (.slice (some ⟨eb, 0, none⟩) n cap) n xs) (hv : w.heap[vb]? = some (.cells c.toArray 30 (0, 0))) (hcl : c.length = 2) (h1v : ∀ v ∈ c, v.oneCell' = true)
    (h1c : ∀ v ∈ xs, v.oneCell' = true) (hvb : vb ≠ eb) (hi : i ≤ n) (hnl : n ≤ 4096) :
    Calls Yba.prog 39 #[.slice (some ⟨eb, 0, none⟩) n cap, .int .i64 i, .slice (some ⟨vb, 0, none⟩) 1 1] w fun e w' => ∃ g' cap', e = .returned (.slice (some ⟨g', 0, none⟩) (n + 1) cap') ∧ w'.ownsRow 0 30 2 (.slice (some ⟨g', 0, none⟩) (n + 1) cap') (n + 1) (xs.take (i * 2) ++ c ++ xs.drop (i * 2)) ∧ (g' = eb ∨ w.heap.size ≤ g') ∧ Fr (fun j => j = eb) w w' := by
  obtain ⟨h1, h2, cur, hg, hs, ht⟩ := row_open hown
  have hxl := hown.1
  by_cases he : i = n
  · subst he
    refine (insE_end eb i cap vb xs c w hown hv hcl h1v hnl).mono ?_
    rintro e w' ⟨v', rfl, ho, hat, hF⟩
    obtain ⟨g', cap', rfl⟩ := row_succ ho
    refine ⟨g', cap', rfl, ?_, ?_, hF⟩
    · rw [List.take_of_length_le (by omega), List.drop_eq_nil_of_le (by omega), List.append_nil]; exact ho
    · simp [Value.ownBlock] at hat; omega
  · by_cases hr : n + 1 ≤ cap
    · refine (insE_shift eb n cap i vb cur c w hg hs hr (by unfold maxLen at h2; omega) hv hcl h1v (by rw [ht]; exact h1c) hvb (by omega) hnl).mono ?_
      rintro e w' ⟨rfl, hF, cur', hg', hs', ht'⟩
      refine ⟨eb, cap, rfl, ⟨?_, .inr ⟨eb, cap, cur', rfl, Nat.zero_le _, hg', hr, h2, hs', by rw [ht', ht]⟩⟩, .inl rfl, hF⟩
      simp [hxl, hcl]; omega
    · refine (insE_grow eb n cap i vb xs c w hown (by omega) hv hcl h1v h1c hvb (by omega) hnl).mono ?_
      rintro e w' ⟨v', rfl, ho, hat, hF⟩
      obtain ⟨g', cap', rfl⟩ := row_succ ho
      exact ⟨g', cap', rfl, ho, .inr (by simp [Value.ownBlock] at hat; omega), hF.mono (fun _ _ h => h.elim)⟩

theorem insK_in (eb n cap i vb : Nat) (xs c : List Value) (w : World) (hown : w.ownsRow 0 23 1 (.slice (some ⟨eb, 0, none⟩) n cap) n xs) (hv : w.heap[vb]? = some (.cells c.toArray 23 (0, 0))) (hcl : c.length = 1) (h1v : ∀ v ∈ c, v.oneCell' = true)
    (h1c : ∀ v ∈ xs, v.oneCell' = true) (hvb : vb ≠ eb) (hi : i ≤ n) (hnl : n ≤ 4096) :
    Calls Yba.prog 40 #[.slice (some ⟨eb, 0, none⟩) n cap, .int .i64 i, .slice (some ⟨vb, 0, none⟩) 1 1] w fun e w' => ∃ g' cap', e = .returned (.slice (some ⟨g', 0, none⟩) (n + 1) cap') ∧ w'.ownsRow 0 23 1 (.slice (some ⟨g', 0, none⟩) (n + 1) cap') (n + 1) (xs.take i ++ c ++ xs.drop i) ∧ (g' = eb ∨ w.heap.size ≤ g') ∧ Fr (fun j => j = eb) w w' := by
  obtain ⟨h1, h2, cur, hg, hs, ht⟩ := row_open hown
  have hxl := hown.1
  rw [Nat.mul_one] at hs ht
  by_cases he : i = n
  · subst he
    refine (insK_end eb i cap vb xs c w hown hv hcl h1v hnl).mono ?_
    rintro e w' ⟨v', rfl, ho, hat, hF⟩
    obtain ⟨g', cap', rfl⟩ := row_succ ho
    refine ⟨g', cap', rfl, ?_, ?_, hF⟩
    · rw [List.take_of_length_le (by omega), List.drop_eq_nil_of_le (by omega), List.append_nil]; exact ho
    · simp [Value.ownBlock] at hat; omega
  · by_cases hr : n + 1 ≤ cap
    · refine (insK_shift eb n cap i vb cur c w hg hs hr (by unfold maxLen at h2; omega) hv hcl h1v (by rw [ht]; exact h1c) hvb (by omega) hnl).mono ?_
      rintro e w' ⟨rfl, hF, cur', hg', hs', ht'⟩
      refine ⟨eb, cap, rfl, ⟨?_, .inr ⟨eb, cap, cur', rfl, Nat.zero_le _, hg', hr, h2, by omega, by rw [Nat.mul_one, ht', ht]⟩⟩, .inl rfl, hF⟩
      simp [hxl, hcl]; omega
    · refine (insK_grow eb n cap i vb xs c w hown (by omega) hv hcl h1v h1c hvb (by omega) hnl).mono ?_
      rintro e w' ⟨v', rfl, ho, hat, hF⟩
      obtain ⟨g', cap', rfl⟩ := row_succ ho
      exact ⟨g', cap', rfl, ho, .inr (by simp [Value.ownBlock] at hat; omega), hF.mono (fun _ _ h => h.elim)⟩
end Go.Proofs.Ybulkbrzk.BT
