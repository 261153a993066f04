/-
  joinLevel, join.
-/
import Derived.Test.YbulkbrzkJoinR
namespace Go.Proofs.Ybulkbrzk.BT
open Go Go.RowKit
set_option linter.unusedVariables false

theorem join_level (tb g N : Nat) (k : ByteArray) (v : Int) : ∀ (m lh rh : Nat), lh + rh ≤ m → lh ≤ 4000 → rh ≤ 4000 → ∀ (l : GT lh) (r : GT rh) (w : World), w.cell? ⟨tb, 1, none⟩ = some (.int .u64 g) → tb ∉ l.fp g ++ r.fp g → N ≤ w.heap.size → Tree g N w l → Tree g N w r → (l.fp g ++ r.fp g).Nodup → (l.flat ++ (k, v) :: r.flat).length ≤ 4000 →
    Calls Yba.prog 53 #[.pointer (some ⟨tb, 0, none⟩), l.ptr, .int .i64 lh, .agg #[.string k, .int .i64 v], r.ptr, .int .i64 rh] w (JoinPost g N (max lh rh) (l.fp g ++ r.fp g) (l.flat ++ (k, v) :: r.flat) w) := by
  intro m
  induction m with
  | zero =>
    intro lh rh hm h1 h2 l r w hg htb hN hl hr hnd hlen
    obtain rfl : lh = 0 := by omega
    obtain rfl : rh = 0 := by omega
    exact join_eq tb g N l r k v w hg htb hN hl hr hnd hlen
  | succ m ih =>
    intro lh rh hm h1 h2 l r w hg htb hN hl hr hnd hlen
    rcases Nat.lt_trichotomy lh rh with h | h | h
    · obtain ⟨a, rfl⟩ : ∃ a, rh = a + 1 := ⟨rh - 1, by omega⟩
      rw [Nat.max_eq_right (Nat.le_of_lt h)]
      refine join_right tb g N l r k v w (by omega) (by omega) hg htb hN hl hr hnd hlen (fun K W a1 a2 a3 a4 a5 a6 a7 => ?_)
      have := ih lh a (by omega) h1 (by omega) l K W a1 a2 a3 a4 a5 a6 a7
      rwa [Nat.max_eq_right (by omega)] at this
    · subst h
      rw [Nat.max_self]
      exact join_eq tb g N l r k v w hg htb hN hl hr hnd hlen
    · obtain ⟨a, rfl⟩ : ∃ a, lh = a + 1 := ⟨lh - 1, by omega⟩
      rw [Nat.max_eq_left (Nat.le_of_lt h)]
      refine join_left tb g N l r k v w (by omega) (by omega) hg htb hN hl hr hnd hlen (fun K W a1 a2 a3 a4 a5 a6 a7 => ?_)
      have := ih a rh (by omega) (by omega) h2 K r W a1 a2 a3 a4 a5 a6 a7
      rwa [Nat.max_eq_left (by omega)] at this

/-- two trees and the entry between them -/
theorem ins_mid (X Y : List E) (k : ByteArray) (v : Int) (hS : Sorted (X ++ (k, v) :: Y)) : ins k v (X ++ Y) = X ++ (k, v) :: Y := by
  rw [ins_low X Y (fun x hx => hS.cross hx (y := (k, v)) (by simp))]
  have := ins_high (k := k) (v := v) [] Y (fun y hy => (List.pairwise_cons.1 hS.right).1 y hy)
  rw [List.nil_append] at this
  rw [this]
  rfl

def Root.pa : Root → Option Addr
  | none => none
  | some ⟨_, t⟩ => some ⟨t.nd.b, 0, none⟩
theorem Root.ptr_pa (r : Root) : r.ptr = .pointer r.pa := by
  cases r with
  | none => rfl
  | some t => rfl

theorem RTree.fr {g N : Nat} {S : Nat → Prop} {W W' : World} (hF : Fr S W W') (hN : ∀ i, i < N → ¬ S i) {r : Root} (h : RTree g N W r) (hs : ∀ x, x ∈ r.fp g → ¬ S x) : RTree g N W' r := by
  cases r with
  | none => trivial
  | some t => exact Tree.fr hF hN (t := t.2) h hs
theorem RTree.still {g N : Nat} {W W' : World} {r : Root} (h : RTree g N W r) (hF : Fr (fun _ => False) W W') : RTree g N W' r := h.fr hF (fun _ _ h => h) (fun _ _ h => h)
theorem RTree.fp_lt {g N : Nat} {W : World} {r : Root} (h : RTree g N W r) : ∀ x, x ∈ r.fp g → N ≤ x ∧ x < W.heap.size := by
  cases r with
  | none => intro x hx; cases hx
  | some t => exact Tree.fp_lt (t := t.2) h

/-- what join does -/
def JoinedPost (g N : Nat) (l r : Root) (k : ByteArray) (v : Int) (w : World) (e : Ending) (w' : World) : Prop :=
  ∃ (h : Nat) (t : GT h), e = .returned t.ptr ∧ h ≤ max l.height r.height + 1 ∧ t.flat = l.flat ++ (k, v) :: r.flat ∧ Tree g N w' t ∧ Grow (l.fp g ++ r.fp g) w w' (t.fp g)
end Go.Proofs.Ybulkbrzk.BT
