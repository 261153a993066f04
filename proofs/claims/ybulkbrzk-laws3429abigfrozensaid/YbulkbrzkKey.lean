/-
  zzs3429akey: four digits.
-/
import Derived.Test.YbulkbrzkFreeze
import Derived.Laws.IdiomStrings
namespace Go.Proofs.Ybulkbrzk.BT
open Go Go.RowKit
set_option linter.unusedVariables false

def dig (n : Nat) : UInt8 := (48 + n % 10).toUInt8
theorem dig_nat (n : Nat) : (dig n).toNat = 48 + n % 10 := by
  unfold dig
  simp [Nat.toUInt8, UInt8.toNat_ofNat']
  omega
/-- the key of a number -/
def key4 (n : Nat) : ByteArray := ⟨#[dig (n / 1000), dig (n / 100), dig (n / 10), dig n]⟩

set_option maxRecDepth 100000 in
set_option maxHeartbeats 2000000 in
theorem key_in (n : Nat) (hn : n < 10000) (w : World) : Calls Yba.prog 14 #[.int .i64 n] w fun e w' => e = .returned (.string (key4 n)) ∧ Fr (fun _ => False) w w' := by
  obtain ⟨W, hW⟩ : ∃ W, W = w.alloc (.cells #[.int .u8 (48 + (n : Int) / 1000 % 10), .int .u8 (48 + (n : Int) / 100 % 10), .int .u8 (48 + (n : Int) / 10 % 10), .int .u8 (48 + (n : Int) % 10)] 5) := ⟨_, rfl⟩
  have hob : W.heap[w.heap.size]? = some (.cells #[.int .u8 (48 + (n : Int) / 1000 % 10), .int .u8 (48 + (n : Int) / 100 % 10), .int .u8 (48 + (n : Int) / 10 % 10), .int .u8 (48 + (n : Int) % 10)] 5 (0, 0)) := by
    rw [hW]
    show (w.heap.push _)[w.heap.size]? = _
    simp
  have hcv : (convert 54 9 (.slice (some ⟨w.heap.size, 0, none⟩) 4 4)).run Yba.prog W = .ok (.string (key4 n)) W := by
    refine run_convert_bytes_back (P := Yba.prog) W 54 9 5 ⟨w.heap.size, 0, none⟩ 4 [dig (n / 1000), dig (n / 100), dig (n / 10), dig n] Yba.underlying54 Yba.underlying5 Yba.underlying9 (fun j hj => ?_)
    rw [addr_add, Nat.zero_add]
    simp only [List.length_cons, List.length_nil] at hj
    simp only [World.cell?, hob]
    match j, hj with
    | 0, _ => simp [dig_nat]
    | 1, _ => simp [dig_nat]
    | 2, _ => simp [dig_nat]
    | 3, _ => simp [dig_nat]
  have hF : Fr (fun _ => False) w W := by rw [hW]; exact (Fr.refl _ _).alloc _
  have HW := Lib.hid hW
  clear hob hW
  go_enter Yba.func14, Yba.ntmps14
  go_wp2_with fail
  rw [← HW.out]
  simp only [hcv, Result.andThen]
  rw [Oper.upon_value]
  go_wp2_with fail
  go_ret
  exact ⟨rfl, hF⟩
end Go.Proofs.Ybulkbrzk.BT
