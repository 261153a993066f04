import Derived.Test.YbulkbrzkRaft2
namespace Go.Proofs.Ybulkbrzk.Raft
open Go.ChangeShapes Go.WideShapes Go.ChangeAt Go.RowKit
set_option linter.unusedVariables false      -- a bound that the walk or omega takes from the context

/-- the least of three, as both functions come to it -/
def up3 (li hint last : Int) : Int := if last < (if hint < li then hint else li) then last else if hint < li then hint else li

theorem model_low (tb n : Nat) (si st li hint lt ts : Int) (w : World) (b0 : 0 ≤ si) (b1 : si ≤ 4611686018427387904) (bn : n ≤ 1024)
    (hup : up3 li hint (si + n) < si) :
    Calls Yba.prog 21 #[.int .u64 si, .int .u64 st, .slice (some ⟨tb, 0, none⟩) n n, .int .u64 li, .int .u64 hint, .int .u64 lt, .int .u64 ts] w fun e w' =>
      e = .returned (.int .u64 (up3 li hint (si + n))) ∧ w' = w := by
  unfold up3 at *
  by_cases c1 : hint < li
  · rw [if_pos c1] at *
    by_cases c2 : si + (n : Int) < hint
    · rw [if_pos c2] at *
      omega
    · rw [if_neg c2] at *
      go_enter Yba.func21, Yba.ntmps21
      go_wp2
      go_ret
      exact ⟨rfl, rfl⟩
  · rw [if_neg c1] at *
    by_cases c2 : si + (n : Int) < li
    · rw [if_pos c2] at *
      omega
    · rw [if_neg c2] at *
      go_enter Yba.func21, Yba.ntmps21
      go_wp2
      go_ret
      exact ⟨rfl, rfl⟩

theorem place_snoc {T : Nat → Int} {k : Nat} {tg : Int} {i : Nat} (h : ∀ x, x < i → T x < tg) (hi : T i < tg) : ∀ x, x < i + 1 → T x < tg := fun x hx => by
  by_cases e : x = i
  · rw [e]; exact hi
  · exact h x (by omega)

theorem ans_min {si st lt ts : Int} {T : Nat → Int} {i : Nat} (h : ¬ termOf st T i = lt) (h2 : IntKind.u64.wrap (ts - 1) < si + i) : ans si st lt ts T i = IntKind.u64.wrap (ts - 1) := by
  rw [ans, if_neg h]; omega
theorem ans_at {si st lt ts : Int} {T : Nat → Int} {i : Nat} (h : ¬ termOf st T i = lt) (h2 : ¬ IntKind.u64.wrap (ts - 1) < si + i) : ans si st lt ts T i = si + i := by
  rw [ans, if_neg h]; omega
theorem ans_eq {si st lt ts : Int} {T : Nat → Int} {i : Nat} (h : termOf st T i = lt) : ans si st lt ts T i = si + i := by
  rw [ans, if_pos h]

set_option maxRecDepth 100000 in
set_option maxHeartbeats 1000000 in
theorem model_a (tb n k : Nat) (T : Nat → Int) (si st li hint lt ts : Int) (w : World) (b0 : 0 ≤ si) (b1 : si ≤ 4611686018427387904) (bn : n ≤ 1024)
    (hT : ∀ j, j < n → w.cell? ⟨tb, j, none⟩ = some (.int .u64 (T j))) (c1 : hint < li) (c2 : si + (n : Int) < hint) (hup : si + (n : Int) = si + k) (hk : k ≤ n) :
    Calls Yba.prog 21 #[.int .u64 si, .int .u64 st, .slice (some ⟨tb, 0, none⟩) n n, .int .u64 li, .int .u64 hint, .int .u64 lt, .int .u64 ts] w fun e w' =>
      ∃ i, e = .returned (.int .u64 (ans si st lt ts T i)) ∧ Place T k (IntKind.u64.wrap (lt + 1)) i ∧ w' = w := by
  have hkn : k = n := by omega
  subst hkn
  go_enter Yba.func21, Yba.ntmps21
  go_wp2
  go_loop [19] (fun t => ∃ i : Nat, i ≤ k ∧ t = .int .i64 i ∧ ∀ x, x < i → T x < IntKind.u64.wrap (lt + 1)) (fun t => k - (intOf t).toNat)
  case atStart => exact ⟨0, Nat.zero_le _, rfl, by intro x hx; omega⟩
  case round =>
    obtain ⟨i, hi, rfl, hb⟩ := hrel
    have HB := hide hb
    clear hb
    by_cases hlt : i < k
    · have hc := hT i (by omega)
      by_cases hq : T i < IntKind.u64.wrap (lt + 1)
      · have HB2 := hide (place_snoc (k := k) (unhide HB) hq)
        clear HB hT
        go_wp2
        go_round
        case rel => exact ⟨i + 1, by omega, by go_num, unhide HB2⟩
        case measure => simp [intOf]; omega
      · have HP : Hid (Place T k (IntKind.u64.wrap (lt + 1)) i) := ⟨hi, unhide HB, fun _ => by omega⟩
        clear HB
        cases i with
        | zero =>
          clear hT
          by_cases htm : st = lt
          · have hd : (st == lt) = true := by simp [htm]
            have A := hide (ans_eq (si := si) (ts := ts) (st := st) (T := T) (i := 0) htm)
            clear htm
            go_wp2
            go_ret
            exact ⟨0, by rw [unhide A]; exact ret_u64 (by omega), unhide HP, rfl⟩
          · have hd : (st == lt) = false := by simp [htm]
            by_cases hw : IntKind.u64.wrap (ts - 1) < si + (0 : Nat)
            · have A := hide (ans_min (si := si) (ts := ts) (st := st) (T := T) (i := 0) htm hw)
              clear htm
              go_wp2
              go_ret
              exact ⟨0, by rw [unhide A]; exact ret_u64 (by omega), unhide HP, rfl⟩
            · have A := hide (ans_at (si := si) (ts := ts) (st := st) (T := T) (i := 0) htm hw)
              clear htm
              go_wp2
              go_ret
              exact ⟨0, by rw [unhide A]; exact ret_u64 (by omega), unhide HP, rfl⟩
        | succ j =>
          have hc2 := hT j (by omega)
          clear hT
          by_cases htm : T j = lt
          · have hd : (T j == lt) = true := by simp [htm]
            have A := hide (ans_eq (si := si) (ts := ts) (st := st) (T := T) (i := j + 1) htm)
            clear htm
            go_wp2
            go_ret
            exact ⟨j + 1, by rw [unhide A]; exact ret_u64 (by omega), unhide HP, rfl⟩
          · have hd : (T j == lt) = false := by simp [htm]
            by_cases hw : IntKind.u64.wrap (ts - 1) < si + (j + 1 : Nat)
            · have A := hide (ans_min (si := si) (ts := ts) (st := st) (T := T) (i := j + 1) htm hw)
              clear htm
              go_wp2
              go_ret
              exact ⟨j + 1, by rw [unhide A]; exact ret_u64 (by omega), unhide HP, rfl⟩
            · have A := hide (ans_at (si := si) (ts := ts) (st := st) (T := T) (i := j + 1) htm hw)
              clear htm
              go_wp2
              go_ret
              exact ⟨j + 1, by rw [unhide A]; exact ret_u64 (by omega), unhide HP, rfl⟩
    · have HP : Hid (Place T k (IntKind.u64.wrap (lt + 1)) i) := ⟨hi, unhide HB, fun h => absurd h hlt⟩
      clear HB
      cases i with
      | zero =>
        clear hT
        by_cases htm : st = lt
        · have hd : (st == lt) = true := by simp [htm]
          have A := hide (ans_eq (si := si) (ts := ts) (st := st) (T := T) (i := 0) htm)
          clear htm
          go_wp2
          go_ret
          exact ⟨0, by rw [unhide A]; exact ret_u64 (by omega), unhide HP, rfl⟩
        · have hd : (st == lt) = false := by simp [htm]
          by_cases hw : IntKind.u64.wrap (ts - 1) < si + (0 : Nat)
          · have A := hide (ans_min (si := si) (ts := ts) (st := st) (T := T) (i := 0) htm hw)
            clear htm
            go_wp2
            go_ret
            exact ⟨0, by rw [unhide A]; exact ret_u64 (by omega), unhide HP, rfl⟩
          · have A := hide (ans_at (si := si) (ts := ts) (st := st) (T := T) (i := 0) htm hw)
            clear htm
            go_wp2
            go_ret
            exact ⟨0, by rw [unhide A]; exact ret_u64 (by omega), unhide HP, rfl⟩
      | succ j =>
        have hc2 := hT j (by omega)
        clear hT
        by_cases htm : T j = lt
        · have hd : (T j == lt) = true := by simp [htm]
          have A := hide (ans_eq (si := si) (ts := ts) (st := st) (T := T) (i := j + 1) htm)
          clear htm
          go_wp2
          go_ret
          exact ⟨j + 1, by rw [unhide A]; exact ret_u64 (by omega), unhide HP, rfl⟩
        · have hd : (T j == lt) = false := by simp [htm]
          by_cases hw : IntKind.u64.wrap (ts - 1) < si + (j + 1 : Nat)
          · have A := hide (ans_min (si := si) (ts := ts) (st := st) (T := T) (i := j + 1) htm hw)
            clear htm
            go_wp2
            go_ret
            exact ⟨j + 1, by rw [unhide A]; exact ret_u64 (by omega), unhide HP, rfl⟩
          · have A := hide (ans_at (si := si) (ts := ts) (st := st) (T := T) (i := j + 1) htm hw)
            clear htm
            go_wp2
            go_ret
            exact ⟨j + 1, by rw [unhide A]; exact ret_u64 (by omega), unhide HP, rfl⟩

set_option maxRecDepth 100000 in
set_option maxHeartbeats 1000000 in
theorem model_b (tb n k : Nat) (T : Nat → Int) (si st li hint lt ts : Int) (w : World) (b0 : 0 ≤ si) (b1 : si ≤ 4611686018427387904) (bn : n ≤ 1024)
    (hT : ∀ j, j < n → w.cell? ⟨tb, j, none⟩ = some (.int .u64 (T j))) (c1 : hint < li) (c2 : ¬ si + (n : Int) < hint) (hup : hint = si + k) (hk : k ≤ n) :
    Calls Yba.prog 21 #[.int .u64 si, .int .u64 st, .slice (some ⟨tb, 0, none⟩) n n, .int .u64 li, .int .u64 hint, .int .u64 lt, .int .u64 ts] w fun e w' =>
      ∃ i, e = .returned (.int .u64 (ans si st lt ts T i)) ∧ Place T k (IntKind.u64.wrap (lt + 1)) i ∧ w' = w := by
  subst hup
  go_enter Yba.func21, Yba.ntmps21
  go_wp2
  go_loop [19] (fun t => ∃ i : Nat, i ≤ k ∧ t = .int .i64 i ∧ ∀ x, x < i → T x < IntKind.u64.wrap (lt + 1)) (fun t => k - (intOf t).toNat)
  case atStart => exact ⟨0, Nat.zero_le _, rfl, by intro x hx; omega⟩
  case round =>
    obtain ⟨i, hi, rfl, hb⟩ := hrel
    have HB := hide hb
    clear hb
    by_cases hlt : i < k
    · have hc := hT i (by omega)
      by_cases hq : T i < IntKind.u64.wrap (lt + 1)
      · have HB2 := hide (place_snoc (k := k) (unhide HB) hq)
        clear HB hT
        go_wp2
        go_round
        case rel => exact ⟨i + 1, by omega, by go_num, unhide HB2⟩
        case measure => simp [intOf]; omega
      · have HP : Hid (Place T k (IntKind.u64.wrap (lt + 1)) i) := ⟨hi, unhide HB, fun _ => by omega⟩
        clear HB
        cases i with
        | zero =>
          clear hT
          by_cases htm : st = lt
          · have hd : (st == lt) = true := by simp [htm]
            have A := hide (ans_eq (si := si) (ts := ts) (st := st) (T := T) (i := 0) htm)
            clear htm
            go_wp2
            go_ret
            exact ⟨0, by rw [unhide A]; exact ret_u64 (by omega), unhide HP, rfl⟩
          · have hd : (st == lt) = false := by simp [htm]
            by_cases hw : IntKind.u64.wrap (ts - 1) < si + (0 : Nat)
            · have A := hide (ans_min (si := si) (ts := ts) (st := st) (T := T) (i := 0) htm hw)
              clear htm
              go_wp2
              go_ret
              exact ⟨0, by rw [unhide A]; exact ret_u64 (by omega), unhide HP, rfl⟩
            · have A := hide (ans_at (si := si) (ts := ts) (st := st) (T := T) (i := 0) htm hw)
              clear htm
              go_wp2
              go_ret
              exact ⟨0, by rw [unhide A]; exact ret_u64 (by omega), unhide HP, rfl⟩
        | succ j =>
          have hc2 := hT j (by omega)
          clear hT
          by_cases htm : T j = lt
          · have hd : (T j == lt) = true := by simp [htm]
            have A := hide (ans_eq (si := si) (ts := ts) (st := st) (T := T) (i := j + 1) htm)
            clear htm
            go_wp2
            go_ret
            exact ⟨j + 1, by rw [unhide A]; exact ret_u64 (by omega), unhide HP, rfl⟩
          · have hd : (T j == lt) = false := by simp [htm]
            by_cases hw : IntKind.u64.wrap (ts - 1) < si + (j + 1 : Nat)
            · have A := hide (ans_min (si := si) (ts := ts) (st := st) (T := T) (i := j + 1) htm hw)
              clear htm
              go_wp2
              go_ret
              exact ⟨j + 1, by rw [unhide A]; exact ret_u64 (by omega), unhide HP, rfl⟩
            · have A := hide (ans_at (si := si) (ts := ts) (st := st) (T := T) (i := j + 1) htm hw)
              clear htm
              go_wp2
              go_ret
              exact ⟨j + 1, by rw [unhide A]; exact ret_u64 (by omega), unhide HP, rfl⟩
    · have HP : Hid (Place T k (IntKind.u64.wrap (lt + 1)) i) := ⟨hi, unhide HB, fun h => absurd h hlt⟩
      clear HB
      cases i with
      | zero =>
        clear hT
        by_cases htm : st = lt
        · have hd : (st == lt) = true := by simp [htm]
          have A := hide (ans_eq (si := si) (ts := ts) (st := st) (T := T) (i := 0) htm)
          clear htm
          go_wp2
          go_ret
          exact ⟨0, by rw [unhide A]; exact ret_u64 (by omega), unhide HP, rfl⟩
        · have hd : (st == lt) = false := by simp [htm]
          by_cases hw : IntKind.u64.wrap (ts - 1) < si + (0 : Nat)
          · have A := hide (ans_min (si := si) (ts := ts) (st := st) (T := T) (i := 0) htm hw)
            clear htm
            go_wp2
            go_ret
            exact ⟨0, by rw [unhide A]; exact ret_u64 (by omega), unhide HP, rfl⟩
          · have A := hide (ans_at (si := si) (ts := ts) (st := st) (T := T) (i := 0) htm hw)
            clear htm
            go_wp2
            go_ret
            exact ⟨0, by rw [unhide A]; exact ret_u64 (by omega), unhide HP, rfl⟩
      | succ j =>
        have hc2 := hT j (by omega)
        clear hT
        by_cases htm : T j = lt
        · have hd : (T j == lt) = true := by simp [htm]
          have A := hide (ans_eq (si := si) (ts := ts) (st := st) (T := T) (i := j + 1) htm)
          clear htm
          go_wp2
          go_ret
          exact ⟨j + 1, by rw [unhide A]; exact ret_u64 (by omega), unhide HP, rfl⟩
        · have hd : (T j == lt) = false := by simp [htm]
          by_cases hw : IntKind.u64.wrap (ts - 1) < si + (j + 1 : Nat)
          · have A := hide (ans_min (si := si) (ts := ts) (st := st) (T := T) (i := j + 1) htm hw)
            clear htm
            go_wp2
            go_ret
            exact ⟨j + 1, by rw [unhide A]; exact ret_u64 (by omega), unhide HP, rfl⟩
          · have A := hide (ans_at (si := si) (ts := ts) (st := st) (T := T) (i := j + 1) htm hw)
            clear htm
            go_wp2
            go_ret
            exact ⟨j + 1, by rw [unhide A]; exact ret_u64 (by omega), unhide HP, rfl⟩

set_option maxRecDepth 100000 in
set_option maxHeartbeats 1000000 in
theorem model_c (tb n k : Nat) (T : Nat → Int) (si st li hint lt ts : Int) (w : World) (b0 : 0 ≤ si) (b1 : si ≤ 4611686018427387904) (bn : n ≤ 1024)
    (hT : ∀ j, j < n → w.cell? ⟨tb, j, none⟩ = some (.int .u64 (T j))) (c1 : ¬ hint < li) (c2 : si + (n : Int) < li) (hup : si + (n : Int) = si + k) (hk : k ≤ n) :
    Calls Yba.prog 21 #[.int .u64 si, .int .u64 st, .slice (some ⟨tb, 0, none⟩) n n, .int .u64 li, .int .u64 hint, .int .u64 lt, .int .u64 ts] w fun e w' =>
      ∃ i, e = .returned (.int .u64 (ans si st lt ts T i)) ∧ Place T k (IntKind.u64.wrap (lt + 1)) i ∧ w' = w := by
  have hkn : k = n := by omega
  subst hkn
  go_enter Yba.func21, Yba.ntmps21
  go_wp2
  go_loop [19] (fun t => ∃ i : Nat, i ≤ k ∧ t = .int .i64 i ∧ ∀ x, x < i → T x < IntKind.u64.wrap (lt + 1)) (fun t => k - (intOf t).toNat)
  case atStart => exact ⟨0, Nat.zero_le _, rfl, by intro x hx; omega⟩
  case round =>
    obtain ⟨i, hi, rfl, hb⟩ := hrel
    have HB := hide hb
    clear hb
    by_cases hlt : i < k
    · have hc := hT i (by omega)
      by_cases hq : T i < IntKind.u64.wrap (lt + 1)
      · have HB2 := hide (place_snoc (k := k) (unhide HB) hq)
        clear HB hT
        go_wp2
        go_round
        case rel => exact ⟨i + 1, by omega, by go_num, unhide HB2⟩
        case measure => simp [intOf]; omega
      · have HP : Hid (Place T k (IntKind.u64.wrap (lt + 1)) i) := ⟨hi, unhide HB, fun _ => by omega⟩
        clear HB
        cases i with
        | zero =>
          clear hT
          by_cases htm : st = lt
          · have hd : (st == lt) = true := by simp [htm]
            have A := hide (ans_eq (si := si) (ts := ts) (st := st) (T := T) (i := 0) htm)
            clear htm
            go_wp2
            go_ret
            exact ⟨0, by rw [unhide A]; exact ret_u64 (by omega), unhide HP, rfl⟩
          · have hd : (st == lt) = false := by simp [htm]
            by_cases hw : IntKind.u64.wrap (ts - 1) < si + (0 : Nat)
            · have A := hide (ans_min (si := si) (ts := ts) (st := st) (T := T) (i := 0) htm hw)
              clear htm
              go_wp2
              go_ret
              exact ⟨0, by rw [unhide A]; exact ret_u64 (by omega), unhide HP, rfl⟩
            · have A := hide (ans_at (si := si) (ts := ts) (st := st) (T := T) (i := 0) htm hw)
              clear htm
              go_wp2
              go_ret
              exact ⟨0, by rw [unhide A]; exact ret_u64 (by omega), unhide HP, rfl⟩
        | succ j =>
          have hc2 := hT j (by omega)
          clear hT
          by_cases htm : T j = lt
          · have hd : (T j == lt) = true := by simp [htm]
            have A := hide (ans_eq (si := si) (ts := ts) (st := st) (T := T) (i := j + 1) htm)
            clear htm
            go_wp2
            go_ret
            exact ⟨j + 1, by rw [unhide A]; exact ret_u64 (by omega), unhide HP, rfl⟩
          · have hd : (T j == lt) = false := by simp [htm]
            by_cases hw : IntKind.u64.wrap (ts - 1) < si + (j + 1 : Nat)
            · have A := hide (ans_min (si := si) (ts := ts) (st := st) (T := T) (i := j + 1) htm hw)
              clear htm
              go_wp2
              go_ret
              exact ⟨j + 1, by rw [unhide A]; exact ret_u64 (by omega), unhide HP, rfl⟩
            · have A := hide (ans_at (si := si) (ts := ts) (st := st) (T := T) (i := j + 1) htm hw)
              clear htm
              go_wp2
              go_ret
              exact ⟨j + 1, by rw [unhide A]; exact ret_u64 (by omega), unhide HP, rfl⟩
    · have HP : Hid (Place T k (IntKind.u64.wrap (lt + 1)) i) := ⟨hi, unhide HB, fun h => absurd h hlt⟩
      clear HB
      cases i with
      | zero =>
        clear hT
        by_cases htm : st = lt
        · have hd : (st == lt) = true := by simp [htm]
          have A := hide (ans_eq (si := si) (ts := ts) (st := st) (T := T) (i := 0) htm)
          clear htm
          go_wp2
          go_ret
          exact ⟨0, by rw [unhide A]; exact ret_u64 (by omega), unhide HP, rfl⟩
        · have hd : (st == lt) = false := by simp [htm]
          by_cases hw : IntKind.u64.wrap (ts - 1) < si + (0 : Nat)
          · have A := hide (ans_min (si := si) (ts := ts) (st := st) (T := T) (i := 0) htm hw)
            clear htm
            go_wp2
            go_ret
            exact ⟨0, by rw [unhide A]; exact ret_u64 (by omega), unhide HP, rfl⟩
          · have A := hide (ans_at (si := si) (ts := ts) (st := st) (T := T) (i := 0) htm hw)
            clear htm
            go_wp2
            go_ret
            exact ⟨0, by rw [unhide A]; exact ret_u64 (by omega), unhide HP, rfl⟩
      | succ j =>
        have hc2 := hT j (by omega)
        clear hT
        by_cases htm : T j = lt
        · have hd : (T j == lt) = true := by simp [htm]
          have A := hide (ans_eq (si := si) (ts := ts) (st := st) (T := T) (i := j + 1) htm)
          clear htm
          go_wp2
          go_ret
          exact ⟨j + 1, by rw [unhide A]; exact ret_u64 (by omega), unhide HP, rfl⟩
        · have hd : (T j == lt) = false := by simp [htm]
          by_cases hw : IntKind.u64.wrap (ts - 1) < si + (j + 1 : Nat)
          · have A := hide (ans_min (si := si) (ts := ts) (st := st) (T := T) (i := j + 1) htm hw)
            clear htm
            go_wp2
            go_ret
            exact ⟨j + 1, by rw [unhide A]; exact ret_u64 (by omega), unhide HP, rfl⟩
          · have A := hide (ans_at (si := si) (ts := ts) (st := st) (T := T) (i := j + 1) htm hw)
            clear htm
            go_wp2
            go_ret
            exact ⟨j + 1, by rw [unhide A]; exact ret_u64 (by omega), unhide HP, rfl⟩

set_option maxRecDepth 100000 in
set_option maxHeartbeats 1000000 in
theorem model_d (tb n k : Nat) (T : Nat → Int) (si st li hint lt ts : Int) (w : World) (b0 : 0 ≤ si) (b1 : si ≤ 4611686018427387904) (bn : n ≤ 1024)
    (hT : ∀ j, j < n → w.cell? ⟨tb, j, none⟩ = some (.int .u64 (T j))) (c1 : ¬ hint < li) (c2 : ¬ si + (n : Int) < li) (hup : li = si + k) (hk : k ≤ n) :
    Calls Yba.prog 21 #[.int .u64 si, .int .u64 st, .slice (some ⟨tb, 0, none⟩) n n, .int .u64 li, .int .u64 hint, .int .u64 lt, .int .u64 ts] w fun e w' =>
      ∃ i, e = .returned (.int .u64 (ans si st lt ts T i)) ∧ Place T k (IntKind.u64.wrap (lt + 1)) i ∧ w' = w := by
  subst hup
  go_enter Yba.func21, Yba.ntmps21
  go_wp2
  go_loop [19] (fun t => ∃ i : Nat, i ≤ k ∧ t = .int .i64 i ∧ ∀ x, x < i → T x < IntKind.u64.wrap (lt + 1)) (fun t => k - (intOf t).toNat)
  case atStart => exact ⟨0, Nat.zero_le _, rfl, by intro x hx; omega⟩
  case round =>
    obtain ⟨i, hi, rfl, hb⟩ := hrel
    have HB := hide hb
    clear hb
    by_cases hlt : i < k
    · have hc := hT i (by omega)
      by_cases hq : T i < IntKind.u64.wrap (lt + 1)
      · have HB2 := hide (place_snoc (k := k) (unhide HB) hq)
        clear HB hT
        go_wp2
        go_round
        case rel => exact ⟨i + 1, by omega, by go_num, unhide HB2⟩
        case measure => simp [intOf]; omega
      · have HP : Hid (Place T k (IntKind.u64.wrap (lt + 1)) i) := ⟨hi, unhide HB, fun _ => by omega⟩
        clear HB
        cases i with
        | zero =>
          clear hT
          by_cases htm : st = lt
          · have hd : (st == lt) = true := by simp [htm]
            have A := hide (ans_eq (si := si) (ts := ts) (st := st) (T := T) (i := 0) htm)
            clear htm
            go_wp2
            go_ret
            exact ⟨0, by rw [unhide A]; exact ret_u64 (by omega), unhide HP, rfl⟩
          · have hd : (st == lt) = false := by simp [htm]
            by_cases hw : IntKind.u64.wrap (ts - 1) < si + (0 : Nat)
            · have A := hide (ans_min (si := si) (ts := ts) (st := st) (T := T) (i := 0) htm hw)
              clear htm
              go_wp2
              go_ret
              exact ⟨0, by rw [unhide A]; exact ret_u64 (by omega), unhide HP, rfl⟩
            · have A := hide (ans_at (si := si) (ts := ts) (st := st) (T := T) (i := 0) htm hw)
              clear htm
              go_wp2
              go_ret
              exact ⟨0, by rw [unhide A]; exact ret_u64 (by omega), unhide HP, rfl⟩
        | succ j =>
          have hc2 := hT j (by omega)
          clear hT
          by_cases htm : T j = lt
          · have hd : (T j == lt) = true := by simp [htm]
            have A := hide (ans_eq (si := si) (ts := ts) (st := st) (T := T) (i := j + 1) htm)
            clear htm
            go_wp2
            go_ret
            exact ⟨j + 1, by rw [unhide A]; exact ret_u64 (by omega), unhide HP, rfl⟩
          · have hd : (T j == lt) = false := by simp [htm]
            by_cases hw : IntKind.u64.wrap (ts - 1) < si + (j + 1 : Nat)
            · have A := hide (ans_min (si := si) (ts := ts) (st := st) (T := T) (i := j + 1) htm hw)
              clear htm
              go_wp2
              go_ret
              exact ⟨j + 1, by rw [unhide A]; exact ret_u64 (by omega), unhide HP, rfl⟩
            · have A := hide (ans_at (si := si) (ts := ts) (st := st) (T := T) (i := j + 1) htm hw)
              clear htm
              go_wp2
              go_ret
              exact ⟨j + 1, by rw [unhide A]; exact ret_u64 (by omega), unhide HP, rfl⟩
    · have HP : Hid (Place T k (IntKind.u64.wrap (lt + 1)) i) := ⟨hi, unhide HB, fun h => absurd h hlt⟩
      clear HB
      cases i with
      | zero =>
        clear hT
        by_cases htm : st = lt
        · have hd : (st == lt) = true := by simp [htm]
          have A := hide (ans_eq (si := si) (ts := ts) (st := st) (T := T) (i := 0) htm)
          clear htm
          go_wp2
          go_ret
          exact ⟨0, by rw [unhide A]; exact ret_u64 (by omega), unhide HP, rfl⟩
        · have hd : (st == lt) = false := by simp [htm]
          by_cases hw : IntKind.u64.wrap (ts - 1) < si + (0 : Nat)
          · have A := hide (ans_min (si := si) (ts := ts) (st := st) (T := T) (i := 0) htm hw)
            clear htm
            go_wp2
            go_ret
            exact ⟨0, by rw [unhide A]; exact ret_u64 (by omega), unhide HP, rfl⟩
          · have A := hide (ans_at (si := si) (ts := ts) (st := st) (T := T) (i := 0) htm hw)
            clear htm
            go_wp2
            go_ret
            exact ⟨0, by rw [unhide A]; exact ret_u64 (by omega), unhide HP, rfl⟩
      | succ j =>
        have hc2 := hT j (by omega)
        clear hT
        by_cases htm : T j = lt
        · have hd : (T j == lt) = true := by simp [htm]
          have A := hide (ans_eq (si := si) (ts := ts) (st := st) (T := T) (i := j + 1) htm)
          clear htm
          go_wp2
          go_ret
          exact ⟨j + 1, by rw [unhide A]; exact ret_u64 (by omega), unhide HP, rfl⟩
        · have hd : (T j == lt) = false := by simp [htm]
          by_cases hw : IntKind.u64.wrap (ts - 1) < si + (j + 1 : Nat)
          · have A := hide (ans_min (si := si) (ts := ts) (st := st) (T := T) (i := j + 1) htm hw)
            clear htm
            go_wp2
            go_ret
            exact ⟨j + 1, by rw [unhide A]; exact ret_u64 (by omega), unhide HP, rfl⟩
          · have A := hide (ans_at (si := si) (ts := ts) (st := st) (T := T) (i := j + 1) htm hw)
            clear htm
            go_wp2
            go_ret
            exact ⟨j + 1, by rw [unhide A]; exact ret_u64 (by omega), unhide HP, rfl⟩

theorem model_any (tb n k : Nat) (T : Nat → Int) (si st li hint lt ts : Int) (w : World) (b0 : 0 ≤ si) (b1 : si ≤ 4611686018427387904) (bn : n ≤ 1024)
    (hT : ∀ j, j < n → w.cell? ⟨tb, j, none⟩ = some (.int .u64 (T j))) (hup : up3 li hint (si + n) = si + k) (hk : k ≤ n) :
    Calls Yba.prog 21 #[.int .u64 si, .int .u64 st, .slice (some ⟨tb, 0, none⟩) n n, .int .u64 li, .int .u64 hint, .int .u64 lt, .int .u64 ts] w fun e w' =>
      ∃ i, e = .returned (.int .u64 (ans si st lt ts T i)) ∧ Place T k (IntKind.u64.wrap (lt + 1)) i ∧ w' = w := by
  unfold up3 at hup
  by_cases c1 : hint < li
  · rw [if_pos c1] at hup
    by_cases c2 : si + (n : Int) < hint
    · rw [if_pos c2] at hup
      exact model_a tb n k T si st li hint lt ts w b0 b1 bn hT c1 c2 hup hk
    · rw [if_neg c2] at hup
      exact model_b tb n k T si st li hint lt ts w b0 b1 bn hT c1 c2 hup hk
  · rw [if_neg c1] at hup
    by_cases c2 : si + (n : Int) < li
    · rw [if_pos c2] at hup
      exact model_c tb n k T si st li hint lt ts w b0 b1 bn hT c1 c2 hup hk
    · rw [if_neg c2] at hup
      exact model_d tb n k T si st li hint lt ts w b0 b1 bn hT c1 c2 hup hk

/-- What both functions answer, whatever the message. -/
def Answer (si st li hint lt ts : Int) (T : Nat → Int) (n : Nat) (r : Int) : Prop :=
  (up3 li hint (si + n) < si ∧ r = up3 li hint (si + n)) ∨
  (¬ up3 li hint (si + n) < si ∧ ∃ i, Place T (up3 li hint (si + n) - si).toNat (IntKind.u64.wrap (lt + 1)) i ∧ r = ans si st lt ts T i)

theorem Answer.one {si st li hint lt ts : Int} {T : Nat → Int} {n : Nat} {r r' : Int} (a : Answer si st li hint lt ts T n r) (b : Answer si st li hint lt ts T n r') : r = r' := by
  rcases a with ⟨a1, rfl⟩ | ⟨a1, i, a2, rfl⟩ <;> rcases b with ⟨b1, rfl⟩ | ⟨b1, j, b2, rfl⟩
  · rfl
  · exact absurd a1 b1
  · exact absurd b1 a1
  · rw [a2.one b2]

theorem up3_le (li hint last : Int) : up3 li hint last ≤ last := by
  unfold up3
  split <;> omega

theorem up3_at {li hint si : Int} {n : Nat} (h : ¬ up3 li hint (si + n) < si) : up3 li hint (si + n) = si + ((up3 li hint (si + n) - si).toNat : Nat) ∧ (up3 li hint (si + n) - si).toNat ≤ n := by
  have := up3_le li hint (si + n)
  omega

theorem stepBack_all (rb lb n : Nat) (I T : Nat → Int) (si st li hint lt ts : Int) (m0 m1 m2 m3 m4 m5 m8 m9 m12 m13 m14 m15 m16 : Value) (w : World) (h : At w rb lb n si st) (hl : Log w lb n I T) (b0 : 0 ≤ si) (b1 : si ≤ 4611686018427387904) (bn : n ≤ 1024)
    (hrb : rb < w.heap.size) (hlb : lb < w.heap.size) (hm : ∀ i j, i ≤ j → j < n → T i ≤ T j) :
    Calls Yba.prog 20 #[.pointer (some ⟨rb, 0, none⟩), .agg #[m0, m1, m2, m3, m4, m5, .int .u64 li, .int .u64 lt, m8, m9, .int .u64 hint, .int .u64 ts, m12, m13, m14, m15, m16]] w fun e w' =>
       ∃ r, e = .returned (.int .u64 r) ∧ Answer si st li hint lt ts T n r ∧ Below w.heap.size w w' := by
  have hmin : ∀ ts t W, (Builtin.min_ ts t #[.int .u64 li, .int .u64 hint, .int .u64 (si + n)]).run Yba.prog W = .ok (.int .u64 (up3 li hint (si + n))) W := fun ts t W => by
    simp [Builtin.min_, Builtin.min2, up3]
  by_cases hup : up3 li hint (si + n) < si
  · exact (stepBack_low rb lb n si st li hint lt ts _ m0 m1 m2 m3 m4 m5 m8 m9 m12 m13 m14 m15 m16 w h b0 b1 bn hrb hmin hup).mono fun e w' ⟨he, hb⟩ => ⟨_, he, .inl ⟨hup, rfl⟩, hb⟩
  · obtain ⟨e1, e2⟩ := up3_at hup
    rw [e1] at hmin
    exact (stepBack_any rb lb n _ I T si st li hint lt ts m0 m1 m2 m3 m4 m5 m8 m9 m12 m13 m14 m15 m16 w h hl b0 b1 bn hrb hlb hm hmin e2).mono fun e w' ⟨i, he, hp, hb⟩ => ⟨_, he, .inr ⟨hup, i, hp, rfl⟩, hb⟩

theorem model_all (tb n : Nat) (T : Nat → Int) (si st li hint lt ts : Int) (w : World) (b0 : 0 ≤ si) (b1 : si ≤ 4611686018427387904) (bn : n ≤ 1024)
    (hT : ∀ j, j < n → w.cell? ⟨tb, j, none⟩ = some (.int .u64 (T j))) :
    Calls Yba.prog 21 #[.int .u64 si, .int .u64 st, .slice (some ⟨tb, 0, none⟩) n n, .int .u64 li, .int .u64 hint, .int .u64 lt, .int .u64 ts] w fun e w' =>
      ∃ r, e = .returned (.int .u64 r) ∧ Answer si st li hint lt ts T n r ∧ w' = w := by
  by_cases hup : up3 li hint (si + n) < si
  · exact (model_low tb n si st li hint lt ts w b0 b1 bn hup).mono fun e w' ⟨he, hb⟩ => ⟨_, he, .inl ⟨hup, rfl⟩, hb⟩
  · obtain ⟨e1, e2⟩ := up3_at hup
    exact (model_any tb n _ T si st li hint lt ts w b0 b1 bn hT e1 e2).mono fun e w' ⟨i, he, hp, hb⟩ => ⟨_, he, .inr ⟨hup, i, hp, rfl⟩, hb⟩

end Go.Proofs.Ybulkbrzk.Raft
