/-
  The plain law of SplitMatchesModel: a list of entries by first sight against the sorted list.
-/
import Derived.Test.YbulkbrzkPlain
namespace Go.Proofs.Ybulkbrzk.BT
open Go Go.RowKit
set_option linter.unusedVariables false

/-- no two entries of one key -/
def Dist (M : List E) : Prop := M.Pairwise fun a b => a.1 ≠ b.1

theorem Sorted.dist : ∀ {l : List E}, Sorted l → Dist l
  | [], _ => List.Pairwise.nil
  | e :: l, h => List.pairwise_cons.2 ⟨fun x hx => ((List.pairwise_cons.1 h).1 x hx).ne, Sorted.dist (List.pairwise_cons.1 h).2⟩
theorem Dist.perm {l m : List E} (hd : Dist l) (h : l.Perm m) : Dist m := (h.pairwise_iff (fun h => h.symm)).1 hd

/-- an entry of another key -/
def other (k : ByteArray) (e : E) : Bool := decide (e.1 ≠ k)
theorem other_pos {k : ByteArray} {e : E} (h : e.1 ≠ k) : other k e = true := by simp [other, h]
theorem other_neg {k : ByteArray} {e : E} (h : e.1 = k) : ¬ other k e = true := by simp [other, h]
theorem other_all {k : ByteArray} {l : List E} (h : ∀ e, e ∈ l → e.1 ≠ k) : l.filter (other k) = l := List.filter_eq_self.2 fun e he => other_pos (h e he)

theorem ins_perm (k : ByteArray) (v : Int) : ∀ {l : List E}, Sorted l → (ins k v l).Perm ((k, v) :: l.filter (other k))
  | [], _ => by simp [ins]
  | e :: l, h => by
    have h1 := List.pairwise_cons.1 h
    rw [ins_cons]
    split
    · rename_i he
      rw [List.filter_cons_of_neg (other_neg he), other_all]
      intro x hx hk
      have := h1.1 x hx
      rw [he, hk] at this
      exact this.irrefl
    · rename_i he
      rw [List.filter_cons_of_pos (other_pos he)]
      split
      · rename_i hlt
        rw [other_all]
        intro x hx hk
        have := (h1.1 x hx)
        rw [hk] at this
        exact this.asymm hlt
      · exact ((ins_perm k v h1.2).cons e).trans (List.Perm.swap _ _ _)

theorem app_perm {M : List E} (k : ByteArray) (v : Int) (h : ∀ e, e ∈ M → e.1 ≠ k) : (M ++ [(k, v)]).Perm ((k, v) :: M.filter (other k)) := by
  rw [other_all h]
  exact List.perm_append_comm

theorem put_perm (A B : List E) (k : ByteArray) (u v : Int) (hd : Dist (A ++ (k, u) :: B)) : (A ++ (k, v) :: B).Perm ((k, v) :: (A ++ (k, u) :: B).filter (other k)) := by
  have h1 := List.pairwise_append.1 hd
  have h2 := List.pairwise_cons.1 h1.2.1
  rw [List.filter_append, List.filter_cons_of_neg (other_neg (k := k) (e := (k, u)) rfl), other_all (fun e he => h1.2.2 e he (k, u) (by simp)), other_all (fun e he h => h2.1 e he h.symm)]
  exact List.perm_middle

/-- a key that is there -/
theorem model_set {F M : List E} (hS : Sorted F) (hp : F.Perm M) (k : ByteArray) (u v : Int) (j : Nat) (hj : M[j]? = some (k, u)) : (ins k v F).Perm (M.set j (k, v)) := by
  obtain ⟨hl, he⟩ := List.getElem?_eq_some_iff.1 hj
  have e1 : M = M.take j ++ (k, u) :: M.drop (j + 1) := by
    conv => lhs; rw [← List.take_append_drop j M, List.drop_eq_getElem_cons hl, he]
  have e2 : M.set j (k, v) = M.take j ++ (k, v) :: M.drop (j + 1) := List.set_eq_take_append_cons_drop.trans (if_pos hl)
  rw [e2]
  refine (ins_perm k v hS).trans (List.Perm.trans ?_ (put_perm (M.take j) (M.drop (j + 1)) k u v (by rw [← e1]; exact hS.dist.perm hp)).symm)
  rw [← e1]
  exact (hp.filter _).cons _

/-- a new key -/
theorem model_app {F M : List E} (hS : Sorted F) (hp : F.Perm M) (k : ByteArray) (v : Int) (h : ∀ e, e ∈ M → e.1 ≠ k) : (ins k v F).Perm (M ++ [(k, v)]) :=
  (ins_perm k v hS).trans (((hp.filter _).cons _).trans (app_perm k v h).symm)

/-- one sorted order -/
theorem sorted_one : ∀ {F D : List E}, Sorted F → Sorted D → F.Perm D → F = D
  | [], D, _, _, h => h.nil_eq
  | a :: F, [], _, _, h => h.eq_nil
  | a :: F, b :: D, hF, hD, h => by
    have hf := List.pairwise_cons.1 hF
    have hd := List.pairwise_cons.1 hD
    have e : a = b := by
      have m1 : a ∈ b :: D := h.mem_iff.1 (by simp)
      have m2 : b ∈ a :: F := h.mem_iff.2 (by simp)
      rcases List.mem_cons.1 m1 with m1 | m1
      · exact m1
      · rcases List.mem_cons.1 m2 with m2 | m2
        · exact m2.symm
        · exact ((hd.1 a m1).asymm (hf.1 b m2)).elim
    subst e
    rw [sorted_one hf.2 hd.2 ((List.perm_cons a).1 h)]

theorem sorted_of : ∀ {D : List E}, Dist D → (D.Pairwise fun a b => ¬ Lt b.1 a.1) → Sorted D
  | [], _, _ => List.Pairwise.nil
  | e :: l, hd, h => List.pairwise_cons.2 ⟨fun x hx => Classical.byContradiction fun hc => (List.pairwise_cons.1 h).1 x hx (Lt.total hc ((List.pairwise_cons.1 hd).1 x hx)), sorted_of (List.pairwise_cons.1 hd).2 (List.pairwise_cons.1 h).2⟩
end Go.Proofs.Ybulkbrzk.BT
