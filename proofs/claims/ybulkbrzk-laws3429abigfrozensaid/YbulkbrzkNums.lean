/-
  The plain law of BigFrozen: the entries of an array of values, by number.
-/
import Derived.Test.YbulkbrzkKey
namespace Go.Proofs.Ybulkbrzk.BT
open Go Go.RowKit
set_option linter.unusedVariables false

theorem dig_lt (a b : Nat) : (dig a < dig b) ↔ a % 10 < b % 10 := by
  rw [UInt8.lt_iff_toNat_lt, dig_nat, dig_nat]
  omega
theorem dig_eq (a b : Nat) : (dig a = dig b) ↔ a % 10 = b % 10 := by
  rw [← UInt8.toNat_inj, dig_nat, dig_nat]
  omega

theorem key_lt {m n : Nat} (h : m < n) (hn : n < 10000) : Lt (key4 m) (key4 n) := by
  unfold Lt key4
  rw [ByteArray.toList_eq, ByteArray.toList_eq]
  simp only [Op.bytesLess, Bool.or_eq_true, decide_eq_true_eq, Bool.and_eq_true, beq_iff_eq, dig_lt, dig_eq]
  have a1 : m / 10 / 10 = m / 100 := Nat.div_div_eq_div_mul m 10 10
  have a2 : m / 100 / 10 = m / 1000 := Nat.div_div_eq_div_mul m 100 10
  have b1 : n / 10 / 10 = n / 100 := Nat.div_div_eq_div_mul n 10 10
  have b2 : n / 100 / 10 = n / 1000 := Nat.div_div_eq_div_mul n 100 10
  have a3 : m / 1000 % 10 = m / 1000 := Nat.mod_eq_of_lt (by omega)
  have b3 : n / 1000 % 10 = n / 1000 := Nat.mod_eq_of_lt (by omega)
  have a4 := Nat.div_add_mod (m / 100) 10
  have b4 := Nat.div_add_mod (n / 100) 10
  have a5 := Nat.div_add_mod (m / 10) 10
  have b5 := Nat.div_add_mod (n / 10) 10
  have a6 := Nat.div_add_mod m 10
  have b6 := Nat.div_add_mod n 10
  rw [a3, b3]
  rw [a2] at a4
  rw [b2] at b4
  rw [a1] at a5
  rw [b1] at b5
  have ra1 := Nat.mod_lt (m / 100) (show 0 < 10 by omega)
  have ra2 := Nat.mod_lt (m / 10) (show 0 < 10 by omega)
  have ra3 := Nat.mod_lt m (show 0 < 10 by omega)
  have rb1 := Nat.mod_lt (n / 100) (show 0 < 10 by omega)
  have rb2 := Nat.mod_lt (n / 10) (show 0 < 10 by omega)
  have rb3 := Nat.mod_lt n (show 0 < 10 by omega)
  generalize m / 1000 = x3 at *
  generalize n / 1000 = y3 at *
  generalize m / 100 % 10 = x2 at *
  generalize n / 100 % 10 = y2 at *
  generalize m / 10 % 10 = x1 at *
  generalize n / 10 % 10 = y1 at *
  generalize m % 10 = x0 at *
  generalize n % 10 = y0 at *
  generalize m / 100 = u2 at *
  generalize n / 100 = v2 at *
  generalize m / 10 = u1 at *
  generalize n / 10 = v1 at *
  clear a1 a2 a3 b1 b2 b3
  by_cases c3 : x3 < y3
  · exact .inl c3
  · have d3 : x3 = y3 := by omega
    refine .inr ⟨d3, ?_⟩
    by_cases c2 : x2 < y2
    · exact .inl c2
    · have d2 : x2 = y2 := by omega
      refine .inr ⟨d2, ?_⟩
      by_cases c1 : x1 < y1
      · exact .inl c1
      · have d1 : x1 = y1 := by omega
        refine .inr ⟨d1, ?_⟩
        omega

/-- the entries of the first m numbers -/
def lst (vals : Nat → Int) : Nat → List E
  | 0 => []
  | m + 1 => lst vals m ++ (if 0 ≤ vals m then [(key4 m, vals m)] else [])

theorem lst_mem {vals : Nat → Int} : ∀ {m : Nat} {x : E}, x ∈ lst vals m → ∃ i, i < m ∧ x.1 = key4 i
  | 0, x, h => by simp [lst] at h
  | m + 1, x, h => by
    rcases List.mem_append.1 h with h | h
    · obtain ⟨i, hi, e⟩ := lst_mem h
      exact ⟨i, by omega, e⟩
    · split at h
      · simp at h
        exact ⟨m, by omega, by rw [h]⟩
      · cases h

theorem lst_sorted (vals : Nat → Int) : ∀ (m : Nat), m ≤ 10000 → Sorted (lst vals m)
  | 0, _ => List.Pairwise.nil
  | m + 1, hm => by
    refine List.pairwise_append.2 ⟨lst_sorted vals m (by omega), ?_, fun a ha b hb => ?_⟩
    · split
      · exact List.pairwise_singleton _ _
      · exact List.Pairwise.nil
    · obtain ⟨i, hi, e⟩ := lst_mem ha
      split at hb
      · simp at hb
        rw [hb, e]
        exact key_lt hi (by omega)
      · cases hb

theorem lst_length (vals : Nat → Int) : ∀ (m : Nat), (lst vals m).length ≤ m
  | 0 => by simp [lst]
  | m + 1 => by
    have := lst_length vals m
    simp only [lst, List.length_append]
    split <;> simp <;> omega

/-- a value set -/
def upd (vals : Nat → Int) (i : Nat) (v : Int) : Nat → Int := fun j => if j = i then v else vals j

theorem lst_upd_ge (vals : Nat → Int) (i : Nat) (v : Int) : ∀ (m : Nat), m ≤ i → lst (upd vals i v) m = lst vals m
  | 0, _ => rfl
  | m + 1, h => by
    have e : upd vals i v m = vals m := by unfold upd; rw [if_neg (by omega)]
    simp only [lst, lst_upd_ge vals i v m (by omega), e]

theorem ins_lst (vals : Nat → Int) (i : Nat) (v : Int) (hv : 0 ≤ v) : ∀ (m : Nat), i < m → m ≤ 10000 → ins (key4 i) v (lst vals m) = lst (upd vals i v) m
  | 0, h, _ => by omega
  | m + 1, h, hm => by
    by_cases him : i = m
    · subst him
      have e : upd vals i v i = v := by unfold upd; rw [if_pos rfl]
      simp only [lst, lst_upd_ge vals i v i (Nat.le_refl _), e, if_pos hv]
      rw [ins_low _ _ (fun x hx => by
        obtain ⟨j, hj, e'⟩ := lst_mem hx
        rw [e']
        exact key_lt hj (by omega))]
      congr 1
      split
      · exact ins_hit rfl
      · rfl
    · have e : upd vals i v m = vals m := by unfold upd; rw [if_neg (fun h' => him h'.symm)]
      simp only [lst, e]
      rw [ins_high _ _ (fun y hy => by
        split at hy
        · simp at hy
          rw [hy]
          exact key_lt (by omega) (by omega)
        · cases hy), ins_lst vals i v hv m (by omega) (by omega)]
end Go.Proofs.Ybulkbrzk.BT
