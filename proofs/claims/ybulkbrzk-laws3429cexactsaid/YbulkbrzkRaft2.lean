import Derived.Test.YbulkbrzkRaft
import Derived.Deep.RegionWith
import Derived.WalkSmall
import Derived.Lib.MinMax
namespace Go.Proofs.Ybulkbrzk.Raft
open Go.ChangeShapes Go.WideShapes Go.ChangeAt Go.RowKit
set_option linter.unusedVariables false      -- a bound that the walk or omega takes from the context

/-- The place that both searches come to: the first of the first k entries whose term is not below tg. -/
structure Place (T : Nat → Int) (k : Nat) (tg : Int) (i : Nat) : Prop where
  le : i ≤ k
  below : ∀ x, x < i → T x < tg
  stop : i < k → tg ≤ T i

theorem Place.one {T : Nat → Int} {k : Nat} {tg : Int} {i j : Nat} (a : Place T k tg i) (b : Place T k tg j) : i = j := by
  rcases Nat.lt_trichotomy i j with h | h | h
  · have h1 := b.below i h
    have h2 := a.stop (by have := b.le; omega)
    omega
  · exact h
  · have h1 := a.below j h
    have h2 := b.stop (by have := a.le; omega)
    omega

theorem At.below {w w' : World} {rb lb n : Nat} {si st : Int} (h : At w rb lb n si st) (hb : rb < w.heap.size) (hbl : Below w.heap.size w w') : At w' rb lb n si st :=
  ⟨(hbl.cell (p := ⟨rb, 18, none⟩) hb).trans h.idx, (hbl.cell (p := ⟨rb, 19, none⟩) hb).trans h.trm, (hbl.cell (p := ⟨rb, 21, none⟩) hb).trans h.log⟩

theorem Log.below {w w' : World} {lb n : Nat} {I T : Nat → Int} (h : Log w lb n I T) (hb : lb < w.heap.size) (hbl : Below w.heap.size w w') : Log w' lb n I T :=
  ⟨fun j hj => (hbl.cell (p := ⟨lb, j * 4, none⟩) hb).trans (h.c0 j hj), fun j hj => (hbl.cell (p := ⟨lb, j * 4 + 1, none⟩) hb).trans (h.c1 j hj),
   fun j hj => (hbl.cell (p := ⟨lb, j * 4 + 2, none⟩) hb).trans (h.c2 j hj), fun j hj => (hbl.cell (p := ⟨lb, j * 4 + 3, none⟩) hb).trans (h.c3 j hj)⟩

theorem lastBelow_any (rb lb n k : Nat) (I T : Nat → Int) (si st tg : Int) (w : World) (h : At w rb lb n si st) (hl : Log w lb n I T) (b0 : 0 ≤ si) (b1 : si ≤ 4611686018427387904) (bn : n ≤ 1024) (hk : k ≤ n)
    (hrb : rb < w.heap.size) (hlb : lb < w.heap.size) (hm : ∀ i j, i ≤ j → j < n → T i ≤ T j) :
    Calls Yba.prog 34 #[.pointer (some ⟨rb, 0, none⟩), .int .u64 tg, .int .u64 (si + k)] w fun e w' =>
      ∃ i : Nat, e = .returned (.int .u64 (si + i)) ∧ Place T k tg i ∧ Below w.heap.size w w' := by
  have hAt := h
  obtain ⟨h1, h2, h3⟩ := h
  go_enter Yba.func34, Yba.ntmps34
  go_wp2_with fail
  refine (entries_any rb lb n k si st _ hAt b0 b1 bn hk).mono ?_
  rintro e w' ⟨rfl, q, rfl⟩
  go_wp2_with fail
  refine (search_any lb k n I T tg _ (hl.below hlb (below_drewN (Below.refl _ _) _)) (by simpa using hlb) bn hk hm).mono ?_
  rintro e w' ⟨i, f, rfl, hi, g1, g2, hbl⟩
  have hP : Place T k tg i := ⟨hi, g1, g2⟩
  have HP := hide hP
  clear g1 g2 hP hm
  have hbl' : Below w.heap.size w w' := (below_drewN (Below.refl _ _) _).trans hbl
  have h1' : w'.cell? ⟨rb, 18, none⟩ = some (.int .u64 si) := (hbl'.cell (p := ⟨rb, 18, none⟩) hrb).trans h1
  clear hbl
  go_wp2_with fail
  go_ret
  exact ⟨i, rfl, unhide HP, hbl'⟩

theorem ret_ptr {b i j : Nat} (h : i = j) : Ending.returned (.pointer (some ⟨b, i * 4, none⟩)) = .returned (.pointer (some ⟨b, j * 4, none⟩)) := by rw [h]

theorem entry_any (rb lb n i : Nat) (si st : Int) (w : World) (h : At w rb lb n si st) (b0 : 0 ≤ si) (b1 : si ≤ 4611686018427387904) (bn : n ≤ 1024) (hi : i < n) :
    Calls Yba.prog 59 #[.pointer (some ⟨rb, 0, none⟩), .int .u64 (si + (i + 1 : Nat))] w fun e w' => e = .returned (.pointer (some ⟨lb, i * 4, none⟩)) ∧ ∃ q, w' = w.drewN q := by
  obtain ⟨h1, h2, h3⟩ := h
  go_enter Yba.func59, Yba.ntmps59
  go_wp2
  go_quiet (fail)
  go_wp2
  go_ret
  exact ⟨ret_ptr (by omega), _, rfl⟩

theorem termAt_snap (rb lb n : Nat) (si st : Int) (w : World) (h : At w rb lb n si st) :
    Calls Yba.prog 35 #[.pointer (some ⟨rb, 0, none⟩), .int .u64 si] w fun e w' => e = .returned (.int .u64 st) ∧ ∃ q, w' = w.drewN q := by
  obtain ⟨h1, h2, h3⟩ := h
  go_enter Yba.func35, Yba.ntmps35
  go_wp2_with fail
  go_ret
  exact ⟨rfl, 0, rfl⟩

theorem termAt_entry (rb lb n i : Nat) (I T : Nat → Int) (si st : Int) (w : World) (h : At w rb lb n si st) (hl : Log w lb n I T) (b0 : 0 ≤ si) (b1 : si ≤ 4611686018427387904) (bn : n ≤ 1024) (hi : i < n) :
    Calls Yba.prog 35 #[.pointer (some ⟨rb, 0, none⟩), .int .u64 (si + (i + 1 : Nat))] w fun e w' => e = .returned (.int .u64 (T i)) ∧ ∃ q, w' = w.drewN q := by
  have hAt := h
  obtain ⟨h1, h2, h3⟩ := h
  have hc := hl.c1 i hi
  have hne : (si + ((i + 1 : Nat) : Int) == si) = false := by simp; omega
  go_enter Yba.func35, Yba.ntmps35
  go_wp2_with fail
  refine (entry_any rb lb n i si st _ hAt b0 b1 bn hi).mono ?_
  rintro e w' ⟨rfl, q, rfl⟩
  go_wp2_with fail
  go_ret
  exact ⟨rfl, q, rfl⟩

/-- The term at the place i: the snapshot's at 0, else that of the entry before it. -/
def termOf (st : Int) (T : Nat → Int) : Nat → Int
  | 0 => st
  | j + 1 => T j

/-- What both functions answer once the place is found. -/
def ans (si st lt ts : Int) (T : Nat → Int) (i : Nat) : Int :=
  if termOf st T i = lt then si + i else min (si + i) (IntKind.u64.wrap (ts - 1))

theorem termAt_any (rb lb n i : Nat) (I T : Nat → Int) (si st : Int) (w : World) (h : At w rb lb n si st) (hl : Log w lb n I T) (b0 : 0 ≤ si) (b1 : si ≤ 4611686018427387904) (bn : n ≤ 1024) (hi : i ≤ n) :
    Calls Yba.prog 35 #[.pointer (some ⟨rb, 0, none⟩), .int .u64 (si + i)] w fun e w' => e = .returned (.int .u64 (termOf st T i)) ∧ ∃ q, w' = w.drewN q := by
  cases i with
  | zero =>
    have e : si + ((0 : Nat) : Int) = si := by omega
    rw [e]
    exact termAt_snap rb lb n si st w h
  | succ j => exact termAt_entry rb lb n j I T si st w h hl b0 b1 bn (by omega)

theorem ret_u64 {a b : Int} (h : a = b) : Ending.returned (.int .u64 a) = .returned (.int .u64 b) := by rw [h]

theorem stepBack_low (rb lb n : Nat) (si st li hint lt ts up : Int) (m0 m1 m2 m3 m4 m5 m8 m9 m12 m13 m14 m15 m16 : Value) (w : World) (h : At w rb lb n si st) (b0 : 0 ≤ si) (b1 : si ≤ 4611686018427387904) (bn : n ≤ 1024)
    (hrb : rb < w.heap.size)
    (hmin : ∀ ts t W, (Builtin.min_ ts t #[.int .u64 li, .int .u64 hint, .int .u64 (si + n)]).run Yba.prog W = .ok (.int .u64 up) W)
    (hup : up < si) :
    Calls Yba.prog 20 #[.pointer (some ⟨rb, 0, none⟩), .agg #[m0, m1, m2, m3, m4, m5, .int .u64 li, .int .u64 lt, m8, m9, .int .u64 hint, .int .u64 ts, m12, m13, m14, m15, m16]] w fun e w' =>
       e = .returned (.int .u64 up) ∧ Below w.heap.size w w' := by
  have hAt := h
  obtain ⟨h1, h2, h3⟩ := h
  go_enter Yba.func20, Yba.ntmps20
  go_wp2_with fail
  have hAt2 : ∀ q, At ((w.alloc (.cells #[m0, m1, m2, m3, m4, m5, .int .u64 li, .int .u64 lt, m8, m9, .int .u64 hint, .int .u64 ts, m12, m13, m14, m15, m16] 83)).drewN q) rb lb n si st := fun q => hAt.below hrb (below_drewN ((Below.refl _ _).alloc (Nat.le_refl _) _) _)
  go_quiet ((go_at_call 33; refine Calls.quiet_of (lastIndex_any rb lb n si st _ (hAt2 _) b0 b1 bn)))
  clear hAt2
  go_wp2_with fail
  go_ret
  exact ⟨rfl, below_drewN ((Below.refl _ _).alloc (Nat.le_refl _) _) _⟩

set_option maxHeartbeats 1000000 in
theorem stepBack_any (rb lb n k : Nat) (I T : Nat → Int) (si st li hint lt ts : Int) (m0 m1 m2 m3 m4 m5 m8 m9 m12 m13 m14 m15 m16 : Value) (w : World) (h : At w rb lb n si st) (hl : Log w lb n I T) (b0 : 0 ≤ si) (b1 : si ≤ 4611686018427387904) (bn : n ≤ 1024)
    (hrb : rb < w.heap.size) (hlb : lb < w.heap.size) (hm : ∀ i j, i ≤ j → j < n → T i ≤ T j) 
    (hmin : ∀ ts t W, (Builtin.min_ ts t #[.int .u64 li, .int .u64 hint, .int .u64 (si + n)]).run Yba.prog W = .ok (.int .u64 (si + k)) W)
    (hkn : k ≤ n) :
    Calls Yba.prog 20 #[.pointer (some ⟨rb, 0, none⟩), .agg #[m0, m1, m2, m3, m4, m5, .int .u64 li, .int .u64 lt, m8, m9, .int .u64 hint, .int .u64 ts, m12, m13, m14, m15, m16]] w fun e w' =>
       ∃ i, e = .returned (.int .u64 (ans si st lt ts T i)) ∧ Place T k (IntKind.u64.wrap (lt + 1)) i ∧ Below w.heap.size w w' := by
  have hAt := h
  obtain ⟨h1, h2, h3⟩ := h
  have hup : ¬ si + (k : Int) < si := by omega
  go_enter Yba.func20, Yba.ntmps20
  go_wp2_with fail
  have hB : ∀ q, Below w.heap.size w ((w.alloc (.cells #[m0, m1, m2, m3, m4, m5, .int .u64 li, .int .u64 lt, m8, m9, .int .u64 hint, .int .u64 ts, m12, m13, m14, m15, m16] 83)).drewN q) := fun q => below_drewN ((Below.refl _ _).alloc (Nat.le_refl _) _) _
  go_quiet ((go_at_call 33; refine Calls.quiet_of (lastIndex_any rb lb n si st _ (hAt.below hrb (hB _)) b0 b1 bn)))
  go_wp2_with fail
  refine (lastBelow_any rb lb n k I T si st _ _ (hAt.below hrb (hB nq)) (hl.below hlb (hB nq)) b0 b1 bn hkn (by simp; omega) (by simp; omega) hm).mono ?_
  rintro e w2 ⟨i, rfl, hP, hbl⟩
  have hsz := hbl.size
  simp at hbl hsz
  have c7 : w2.cell? ⟨w.heap.size, 7, none⟩ = some (.int .u64 lt) := (hbl.cell (p := ⟨w.heap.size, 7, none⟩) (by simp)).trans (by simp)
  have c11 : w2.cell? ⟨w.heap.size, 11, none⟩ = some (.int .u64 ts) := (hbl.cell (p := ⟨w.heap.size, 11, none⟩) (by simp)).trans (by simp)
  have hB2 : Below w.heap.size w w2 := (hB nq).trans (hbl.mono (by omega))
  have hA2 := hAt.below hrb hB2
  have hL2 := hl.below hlb hB2
  clear hbl hB hmin hm
  have hi : i ≤ n := Nat.le_trans hP.le hkn
  have HP := hide hP
  clear hP
  have hAq : ∀ q, At (w2.drewN q) rb lb n si st := fun q => hA2.below (by omega) (below_drewN (Below.refl _ _) _)
  have hLq : ∀ q, Log (w2.drewN q) lb n I T := fun q => hL2.below (by omega) (below_drewN (Below.refl _ _) _)
  have ht := fun q => termAt_any rb lb n i I T si st (w2.drewN q) (hAq q) (hLq q) b0 b1 bn hi
  have ha : ans si st lt ts T i = if termOf st T i = lt then si + i else min (si + i) (IntKind.u64.wrap (ts - 1)) := rfl
  generalize termOf st T i = tm at ht ha
  have Ha := hide ha
  clear ha
  by_cases htm : tm = lt
  · subst htm
    have hd : (tm == tm) = true := by simp
    go_wp2_with fail
    go_quiet ((go_at_call 35; refine Calls.quiet_of (ht _)))
    go_wp2_with fail
    go_ret
    exact ⟨i, by rw [unhide Ha, if_pos trivial]; rfl, unhide HP, below_drewN hB2 _⟩
  · have hd : (tm == lt) = false := by simp [htm]
    go_wp2_with fail
    go_quiet ((go_at_call 35; refine Calls.quiet_of (ht _)))
    go_wp2_with fail
    go_ret
    exact ⟨i, by rw [unhide Ha, if_neg htm]; rfl, unhide HP, below_drewN hB2 _⟩

end Go.Proofs.Ybulkbrzk.Raft
