/-
  slices.Backward and its closure.
-/
import Derived.Test.YbulkbsiaWalk5
namespace Go.Proofs.Ybulkbsia.AM
open Go Go.MapKept Go.RowKit Go.Shelf
set_option linter.unusedVariables false
attribute [local go_sem] Oper.semAt_some

/-- what has come when the index has sunk to k: f (len - 1), .., f k -/
def backs (f : Nat → Nat × Ch) (len k : Nat) : List (Nat × Ch) := (List.range (len - k)).map fun j => f (len - 1 - j)
theorem backs_all (f : Nat → Nat × Ch) (len : Nat) : backs f len len = [] := by simp [backs]
theorem backs_step (f : Nat → Nat × Ch) {len k : Nat} (h : k < len) : backs f len k = backs f len (k + 1) ++ [f k] := by
  have e : len - k = (len - (k + 1)) + 1 := by omega
  unfold backs
  rw [e, List.range_succ, List.map_append]
  simp only [List.map_cons, List.map_nil]
  rw [show len - 1 - (len - (k + 1)) = k by omega]
theorem backs_length (f : Nat → Nat × Ch) (len k : Nat) : (backs f len k).length = len - k := by simp [backs]

/-- what a round keeps for the iterator: all but the two maps and what is newer -/
def Kp (mb B0 : Nat) (A B : World) : Prop := Fr (fun i => i = mb ∨ i = mb + 1 ∨ B0 ≤ i) A B
theorem Kp.trans {mb B0 : Nat} {A B C : World} (h : Kp mb B0 A B) (k : Kp mb B0 B C) : Kp mb B0 A C := Fr.trans h k (fun _ _ h => h)

/-- the changes, as they lie in the block g -/
def Lies (W : World) (g mb len : Nat) (f : Nat → Ch) : Prop := ∀ j, j < len → W.cell? ⟨g, j * 4, none⟩ = some (.map (some (mb + (f j).side))) ∧ W.cell? ⟨g, j * 4 + 1, none⟩ = some (.int .i64 (f j).key) ∧
  W.cell? ⟨g, j * 4 + 2, none⟩ = some (.int .i64 (f j).val) ∧ W.cell? ⟨g, j * 4 + 3, none⟩ = some (.bool (f j).held)

set_option maxRecDepth 100000 in
set_option maxHeartbeats 2000000 in
theorem back1_in (F : Fence) (n : Nat) (h7 : F.fn 7) (hro : F.round = none) (hn : 1 ≤ n) (l Bs mb B0 len cap : Nat) (a : Option Addr) (f : Nat → Ch) (hlen : len ≤ 1024) (hB : Bs < B0 ∧ Bs ≠ mb ∧ Bs ≠ mb + 1) (W : World) (hB0 : B0 ≤ W.heap.size)
    (hs : len = 0 ∨ ∃ g, a = some ⟨g, 0, none⟩ ∧ g < B0 ∧ g ≠ mb ∧ g ≠ mb + 1 ∧ Lies W g mb len f) (J Jx : List (Nat × Ch) → World → Prop)
    (hY : ∀ pre x W, J pre W → pre.length < len → YieldAt F (n - 1) Yba.prog l #[.int .i64 (x.1 : Int), chVal mb x.2] W fun e W' =>
      (e = .returned (.bool true) ∧ J (pre ++ [x]) W' ∧ Kp mb B0 W W') ∨ (e = .returned (.bool false) ∧ Jx (pre ++ [x]) W'))
    (hBs : W.cell? ⟨Bs, 0, none⟩ = some (.slice a len cap)) (h0 : J [] W) :
    CallsIn F n Yba.prog 7 #[.func (.yield l) #[] #[], .pointer (some ⟨Bs, 0, none⟩)] W fun e W' => (∃ v, e = .returned v) ∧
      ((∃ ys, ys = backs (fun j => (j, f j)) len 0 ∧ J ys W') ∨ (∃ pre, True ∧ Jx pre W')) := by
  refine callsIn_of_wp Yba.func7 rfl h7 ?_ hro
  simp only [Yba.ntmps7, List.size_toArray, List.length_cons, List.length_nil, Nat.reduceAdd, Nat.reduceSub, Array.replicate_succ, Array.replicate_zero, List.push_toArray, List.append_toArray, List.nil_append, List.cons_append]
  gi_wp2
  gi_loopw [3] (fun i wr => ∃ k : Nat, k ≤ len ∧ i = .int .i64 ((k : Int) - 1) ∧ J (backs (fun j => (j, f j)) len k) wr ∧ Kp mb B0 W wr)
    (fun i _ => (intOf i + 1).toNat)
  case atStart => exact ⟨len, Nat.le_refl _, by go_num, by rw [backs_all]; exact h0, Fr.refl _ _⟩
  case round =>
    obtain ⟨k, hk, rfl, hJs, hnx⟩ := hrel
    cases k with
    | zero =>
      gi_wp2
      go_end0
      exact ⟨⟨_, rfl⟩, .inl ⟨_, rfl, hJs⟩⟩
    | succ k =>
      have hlt : k < len := by omega
      rcases hs with h | ⟨g, rfl, hg1, hg2, hg3, hL⟩
      · omega
      obtain ⟨fn, tmps, assign, body, hy, hR⟩ := hY _ (k, f k) wr hJs (by rw [backs_length]; omega)
      dsimp only [chVal] at hy
      obtain ⟨q0, q1, q2, q3⟩ := hL k hlt
      have e0 := (hnx.cell (p := ⟨g, k * 4, none⟩) (by simp; omega) (by simp; omega)).trans q0
      have e1 := (hnx.cell (p := ⟨g, k * 4 + 1, none⟩) (by simp; omega) (by simp; omega)).trans q1
      have e2 := (hnx.cell (p := ⟨g, k * 4 + 2, none⟩) (by simp; omega) (by simp; omega)).trans q2
      have e3 := (hnx.cell (p := ⟨g, k * 4 + 3, none⟩) (by simp; omega) (by simp; omega)).trans q3
      have eb := (hnx.cell (p := ⟨Bs, 0, none⟩) (by simp; omega) (by simp; omega)).trans hBs
      have Hs := Lib.hid (And.intro q0 (And.intro hL (And.intro hJs hnx)))
      clear q0 q1 q2 q3 hL hJs hnx hY hBs h0
      have ek : ((k + 1 : Nat) : Int) - 1 = k := by omega
      rw [ek]
      gi_wp2
      refine hR.mono ?_
      rintro e W3 (⟨rfl, hJ3, hk3⟩ | ⟨rfl, hJx3⟩)
      · gi_wp2
        go_roundw
        case rel => exact ⟨k, by omega, by go_num, by rw [backs_step _ hlt]; exact hJ3, Hs.out.2.2.2.trans hk3⟩
        case measure => simp [intOf]
      · gi_wp2
        refine bodyPost_ret (results_none rfl _ _ _) rfl ?_
        exact ⟨⟨_, rfl⟩, .inr ⟨_, trivial, hJx3⟩⟩

set_option maxHeartbeats 1000000 in
theorem backward_in (F : Fence) (n : Nat) (h6 : F.fn 6) (hro : F.round = none) (a : Option Addr) (len cap : Nat) (w : World) :
    CallsIn F n Yba.prog 6 #[.slice a len cap] w fun e w' => e = .returned (.func (.func 7) #[] #[.pointer (some ⟨w.heap.size, 0, none⟩)]) ∧ w' = w.alloc (.cells #[.slice a len cap] 33) := by
  refine callsIn_of_wp Yba.func6 rfl h6 ?_ hro
  simp only [Yba.ntmps6, List.size_toArray, List.length_cons, List.length_nil, Nat.reduceAdd, Nat.reduceSub, Array.replicate_succ, Array.replicate_zero, List.push_toArray, List.append_toArray, List.nil_append, List.cons_append]
  gi_wp2
  go_ret
  exact ⟨rfl, rfl⟩

theorem back_stops (F : Fence) (n : Nat) (h7 : F.fn 7) (hro : F.round = none) (hn : 1 ≤ n) (Bs mb len cap : Nat) (a : Option Addr) (f : Nat → Ch) (hlen : len ≤ 1024) (w : World) (hB : Bs < w.heap.size ∧ Bs ≠ mb ∧ Bs ≠ mb + 1)
    (hs : len = 0 ∨ ∃ g, a = some ⟨g, 0, none⟩ ∧ g < w.heap.size ∧ g ≠ mb ∧ g ≠ mb + 1 ∧ Lies w g mb len f) (hBs : w.cell? ⟨Bs, 0, none⟩ = some (.slice a len cap)) :
    SeqStopsK F n Yba.prog 7 #[.pointer (some ⟨Bs, 0, none⟩)] (fun x : Nat × Ch => #[Value.int .i64 (x.1 : Int), chVal mb x.2]) (Kp mb w.heap.size) (fun ys => ys = backs (fun j => (j, f j)) len 0) (fun _ => True) len w := fun l J Jx W hW _ _ hY h0 => by
  refine back1_in F n h7 hro hn l Bs mb w.heap.size len cap a f hlen hB W hW.size ?_ J Jx hY ((hW.cell (p := ⟨Bs, 0, none⟩) hB.1).trans hBs) h0
  rcases hs with h | ⟨g, e, h1, h2, h3, h4⟩
  · exact .inl h
  · exact .inr ⟨g, e, h1, h2, h3, fun j hj => ⟨(hW.cell (p := ⟨g, j * 4, none⟩) h1).trans (h4 j hj).1, (hW.cell (p := ⟨g, j * 4 + 1, none⟩) h1).trans (h4 j hj).2.1, (hW.cell (p := ⟨g, j * 4 + 2, none⟩) h1).trans (h4 j hj).2.2.1, (hW.cell (p := ⟨g, j * 4 + 3, none⟩) h1).trans (h4 j hj).2.2.2⟩⟩
end Go.Proofs.Ybulkbsia.AM
