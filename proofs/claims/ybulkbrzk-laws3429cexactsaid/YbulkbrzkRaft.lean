import Derived.Test.YbulkbrzkRows
import Derived.WalkKit
import Derived.ProofKit
import Derived.OpenShut
import Derived.ShutString
import Derived.Deep.QuietTactic
import Derived.BigQuiet
namespace Go.Proofs.Ybulkbrzk.Raft
set_option linter.unusedVariables false      -- a bound that the walk or omega takes from the context
open Go.ChangeShapes Go.WideShapes Go.ChangeAt Go.RowKit

theorem hide {p : Prop} (h : p) : Hid p := h
theorem unhide {p : Prop} (h : Hid p) : p := h

/-- cmp.Compare at uint64: the sign. -/
def sgn (x y : Int) : Int := if x < y then -1 else if y < x then 1 else 0

theorem compare_any (x y : Int) (w : World) :
    Calls Yba.prog 58 #[.int .u64 x, .int .u64 y] w fun e w' => e = .returned (.int .i64 (sgn x y)) ∧ w' = w := by
  by_cases h1 : x < y
  · go_enter Yba.func58, Yba.ntmps58
    go_wp2
    go_ret
    exact ⟨by simp [sgn, h1], rfl⟩
  · by_cases h2 : y < x
    · go_enter Yba.func58, Yba.ntmps58
      go_wp2
      go_ret
      exact ⟨by simp [sgn, h1, h2], rfl⟩
    · go_enter Yba.func58, Yba.ntmps58
      go_wp2
      go_ret
      have hs : sgn x y = 0 := by rw [sgn, if_neg (by omega), if_neg (by omega)]
      exact ⟨by rw [hs]; rfl, rfl⟩

theorem ret_slice {a : Option Addr} {k n m : Nat} (h : k = m) : Ending.returned (.slice a k n) = .returned (.slice a m n) := by rw [h]

theorem sgn_neg {x y : Int} (h : x < y) : sgn x y < 0 := by rw [sgn, if_pos h]; decide
theorem sgn_pos {x y : Int} (h : ¬ x < y) : ¬ sgn x y < 0 := by
  rw [sgn, if_neg h]
  split <;> decide

theorem closure_any (i t el y : Int) (d : ByteArray) (w : World) :
    Calls Yba.prog 57 #[.agg #[.int .u64 i, .int .u64 t, .string d, .int .i64 el], .int .u64 y] w fun e w' =>
      e = .returned (.int .i64 (sgn t y)) ∧ w' = w.alloc (.cells #[.int .u64 i, .int .u64 t, .string d, .int .i64 el] 58) := by
  go_enter Yba.func57, Yba.ntmps57
  go_wp2_with (go_at_call 58; refine (compare_any _ _ _).mono ?_; rintro e w' ⟨rfl, rfl⟩)
  go_ret
  exact ⟨rfl, rfl⟩

/-- The raft's three cells that the road reads. -/
structure At (w : World) (rb lb n : Nat) (si st : Int) : Prop where
  idx : w.cell? ⟨rb, 18, none⟩ = some (.int .u64 si)
  trm : w.cell? ⟨rb, 19, none⟩ = some (.int .u64 st)
  log : w.cell? ⟨rb, 21, none⟩ = some (.slice (some ⟨lb, 0, none⟩) n n)

theorem lastIndex_any (rb lb n : Nat) (si st : Int) (w : World) (h : At w rb lb n si st) (b0 : 0 ≤ si) (b1 : si ≤ 4611686018427387904) (bn : n ≤ 1024) :
    Calls Yba.prog 33 #[.pointer (some ⟨rb, 0, none⟩)] w fun e w' => e = .returned (.int .u64 (si + n)) ∧ ∃ q, w' = w.drewN q := by
  obtain ⟨h1, h2, h3⟩ := h
  go_enter Yba.func33, Yba.ntmps33
  go_wp2
  go_quiet (fail)
  go_wp2
  go_ret
  exact ⟨rfl, _, rfl⟩


/-- The log's cells: entry j holds index 'I j' and term 'T j'. -/
structure Log (w : World) (lb n : Nat) (I T : Nat → Int) : Prop where
  c0 : ∀ j, j < n → w.cell? ⟨lb, j * 4, none⟩ = some (.int .u64 (I j))
  c1 : ∀ j, j < n → w.cell? ⟨lb, j * 4 + 1, none⟩ = some (.int .u64 (T j))
  c2 : ∀ j, j < n → w.cell? ⟨lb, j * 4 + 2, none⟩ = some (.string ByteArray.empty)
  c3 : ∀ j, j < n → w.cell? ⟨lb, j * 4 + 3, none⟩ = some (.int .i64 0)

theorem entries_any (rb lb n k : Nat) (si st : Int) (w : World) (h : At w rb lb n si st) (b0 : 0 ≤ si) (b1 : si ≤ 4611686018427387904) (bn : n ≤ 1024) (hk : k ≤ n) :
    Calls Yba.prog 56 #[.pointer (some ⟨rb, 0, none⟩), .int .u64 si, .int .u64 (si + k)] w fun e w' => e = .returned (.slice (some ⟨lb, 0, none⟩) k n) ∧ ∃ q, w' = w.drewN q := by
  obtain ⟨h1, h2, h3⟩ := h
  go_enter Yba.func56, Yba.ntmps56
  go_wp2
  go_quiet (fail)
  go_wp2
  go_ret
  exact ⟨ret_slice (by omega), _, rfl⟩

theorem search_any (lb k n : Nat) (I T : Nat → Int) (tg : Int) (w : World) (h : Log w lb n I T) (hb : lb < w.heap.size) (bn : n ≤ 1024) (hk : k ≤ n) (hm : ∀ i j, i ≤ j → j < n → T i ≤ T j) :
    Calls Yba.prog 55 #[.slice (some ⟨lb, 0, none⟩) k n, .int .u64 tg, .func (.func 57) #[] #[]] w fun e w' => ∃ (i : Nat) (f : Bool), e = .returned (.tuple #[.int .i64 i, .bool f]) ∧ i ≤ k ∧ (∀ x, x < i → T x < tg) ∧ (i < k → tg ≤ T i) ∧ Below w.heap.size w w' := by
  go_enter Yba.func55, Yba.ntmps55
  go_wp2
  go_loopw [9, 10] (fun lo hi wr => ∃ l h : Nat, l ≤ h ∧ h ≤ k ∧ lo = .int .i64 l ∧ hi = .int .i64 h ∧ (∀ x, x < l → T x < tg) ∧ (∀ x, h ≤ x → x < k → tg ≤ T x) ∧ Below w.heap.size w wr)
    (fun lo hi _ => (intOf hi).toNat - (intOf lo).toNat)
  case atStart => exact ⟨0, k, Nat.zero_le _, Nat.le_refl _, rfl, rfl, by intro x hx; omega, by intro x h1 h2; omega, Below.refl _ _⟩
  case round =>
    obtain ⟨l, h', hlh, hh, rfl, rfl, g1, g2, hbl⟩ := hrel
    obtain ⟨e0, e1, e2, e3⟩ := h
    have hcell : ∀ j, j < n → wr.cell? ⟨lb, j * 4, none⟩ = some (.int .u64 (I j)) ∧ wr.cell? ⟨lb, j * 4 + 1, none⟩ = some (.int .u64 (T j)) ∧ wr.cell? ⟨lb, j * 4 + 2, none⟩ = some (.string ByteArray.empty) ∧ wr.cell? ⟨lb, j * 4 + 3, none⟩ = some (.int .i64 0) := fun j hj =>
      ⟨(hbl.cell (p := ⟨lb, j * 4, none⟩) hb).trans (e0 j hj), (hbl.cell (p := ⟨lb, j * 4 + 1, none⟩) hb).trans (e1 j hj), (hbl.cell (p := ⟨lb, j * 4 + 2, none⟩) hb).trans (e2 j hj), (hbl.cell (p := ⟨lb, j * 4 + 3, none⟩) hb).trans (e3 j hj)⟩
    clear e0 e1 e2 e3
    have hsz := hbl.size
    by_cases hlt : l < h'
    · have hmh : (l + h') / 2 < h' := by omega
      have hml : l ≤ (l + h') / 2 := by omega
      obtain ⟨k0, k1, k2, k3⟩ := hcell ((l + h') / 2) (by omega)
      clear hcell
      by_cases hq : T ((l + h') / 2) < tg
      · have hs := sgn_neg hq
        have G1 : ∀ x, x < (l + h') / 2 + 1 → T x < tg := fun x hx => by
          have := hm x ((l + h') / 2) (by omega) (by omega)
          omega
        have HG := hide (And.intro G1 (And.intro g2 hm))
        clear G1 g1 g2 hm hq
        go_wp2_with (go_at_call 57; refine (closure_any _ _ _ _ _ _).mono ?_; rintro e w' ⟨rfl, rfl⟩)
        go_roundw
        case rel => exact ⟨(l + h') / 2 + 1, h', by omega, hh, by go_num, rfl, (unhide HG).1, (unhide HG).2.1, hbl.alloc hsz _⟩
        case measure => simp only [intOf]; omega
      · have hs := sgn_pos hq
        have G2 : ∀ x, (l + h') / 2 ≤ x → x < k → tg ≤ T x := fun x hx hxk => by
          have := hm ((l + h') / 2) x (by omega) (by omega)
          omega
        have HG := hide (And.intro g1 (And.intro G2 hm))
        clear G2 g1 g2 hm hq
        go_wp2_with (go_at_call 57; refine (closure_any _ _ _ _ _ _).mono ?_; rintro e w' ⟨rfl, rfl⟩)
        go_roundw
        case rel => exact ⟨l, (l + h') / 2, by omega, by omega, rfl, by go_num, (unhide HG).1, (unhide HG).2.1, hbl.alloc hsz _⟩
        case measure => simp only [intOf]; omega
    · have hle : l = h' := by omega
      subst hle
      have HG := hide (And.intro g1 (And.intro g2 hm))
      clear g1 g2 hm
      by_cases hlk : l < k
      · obtain ⟨k0, k1, k2, k3⟩ := hcell l (by omega)
        clear hcell
        go_wp2_with (go_at_call 57; refine (closure_any _ _ _ _ _ _).mono ?_; rintro e w' ⟨rfl, rfl⟩)
        go_ret2
        exact ⟨l, _, rfl, hh, (unhide HG).1, fun h => (unhide HG).2.1 l (Nat.le_refl _) h, hbl.alloc hsz _⟩
      · clear hcell
        go_wp2_with (go_at_call 57; refine (closure_any _ _ _ _ _ _).mono ?_; rintro e w' ⟨rfl, rfl⟩)
        go_ret2
        exact ⟨l, _, rfl, hh, (unhide HG).1, fun h => absurd h hlk, hbl⟩

end Go.Proofs.Ybulkbrzk.Raft
