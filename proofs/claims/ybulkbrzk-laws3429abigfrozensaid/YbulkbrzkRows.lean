/-
  No cell of these rows narrows 'for every input' (looked for: loops, veiled, ifaces, maps, wideKeys, modest, calm, conditions, laid).
  DERIVED. THE GIVEN ROWS OF THIS SEAT. 5 by the template 'for every input the law returns true; each argument reads behind the call as it read before'; 0 by the template 'total and deterministic' (their statements: YbulkbrzkTotals.lean).
  GIVEN WITH THE SEED: the statements are not yours to turn. If you find one false, say at which input.
  Laid BY PROGRAM, IN A SANDBOX (cutbox-rows.mjs): the forced cells as the released guide's own fill.sh prints them over the translation 196f533dced3f6de… (all of the seat's roots in one cut). By AI agents, Wed Nov 11 2026. No macro, syntax, notation, axiom, sorry.
-/
import Derived.Test.YbulkbrzkChecked
import GoSem.Claim
import GoSem.ClaimJoined
import GoSem.ClaimMapViews
import Derived.JoinedTies
import Derived.KernelRfl
namespace Go.Proofs.Ybulkbrzk
/- THE CELL 'sum', in the pinned program and in every row, IS THE sha256 OF THE DUMP (.gsa) THAT YbulkbrzkProg.lean LOADS. Nothing in Lean hashes anything: it is a label: what it is worth is what the hold of that sum in a sandbox is worth. -/
noncomputable def Yba.pinned : Pinned := { name := "ybulkbrzk", sum := "196f533dced3f6de16b0d0542889b668fb7bb8c49e04ba1cb70e3d600cf6d415", checked := Yba.checked }
namespace Rows
def none {H : Type} : Left H := { results := [], args := [] }

/-- 'kv.LawS3429ASplitMatchesModel': WHATEVER THE INPUT: true; the input reads as it did. -/
def lawS3429ASplitMatchesModelSpec : ChangeSpec := { name := "lawS3429ASplitMatchesModel", fn := fun _ => fun
  | [d1, d2] => { results := [.lit (.bool true)], args := [d1, d2] }
  | _ => none }
def lawS3429ASplitMatchesModelRow : OpenClaim := { program := "ybulkbrzk", sum := "196f533dced3f6de16b0d0542889b668fb7bb8c49e04ba1cb70e3d600cf6d415", func := "example.com/quorumkeep/quorumkeep/internal/kv.LawS3429ASplitMatchesModel", spec := "lawS3429ASplitMatchesModel", inPlace := ["slices.overlaps[example.com/quorumkeep/quorumkeep/internal/kv.entry[int]]", "slices.overlaps[*example.com/quorumkeep/quorumkeep/internal/kv.treeNode[int]]", "internal/bytealg.abigen_runtime_cmpstring"], unfollowed := true, recurses := true, apart := false }
def LawS3429ASplitMatchesModelSaid : Prop := lawS3429ASplitMatchesModelRow.holds Yba.pinned (OpenSpec.ofChange lawS3429ASplitMatchesModelSpec)

/-- ITS FALSE NEIGHBOUR: 'it returns false'. Refute it at one input. -/
def lawS3429ASplitMatchesModelWrong : ChangeSpec := { name := "lawS3429ASplitMatchesModel", fn := fun _ => fun
  | [d1, d2] => { results := [.lit (.bool false)], args := [d1, d2] }
  | _ => none }
def LawS3429ASplitMatchesModelWrongFalsely : Prop := lawS3429ASplitMatchesModelRow.holds Yba.pinned (OpenSpec.ofChange lawS3429ASplitMatchesModelWrong)

/-- 'kv.LawS3429ABigFrozen': WHATEVER THE INPUT: true; the input reads as it did. -/
def lawS3429ABigFrozenSpec : ChangeSpec := { name := "lawS3429ABigFrozen", fn := fun _ => fun
  | [d1, d2, d3, d4, d5] => { results := [.lit (.bool true)], args := [d1, d2, d3, d4, d5] }
  | _ => none }
def lawS3429ABigFrozenRow : OpenClaim := { program := "ybulkbrzk", sum := "196f533dced3f6de16b0d0542889b668fb7bb8c49e04ba1cb70e3d600cf6d415", func := "example.com/quorumkeep/quorumkeep/internal/kv.LawS3429ABigFrozen", spec := "lawS3429ABigFrozen", inPlace := ["slices.overlaps[example.com/quorumkeep/quorumkeep/internal/kv.entry[int]]", "slices.overlaps[*example.com/quorumkeep/quorumkeep/internal/kv.treeNode[int]]", "internal/bytealg.abigen_runtime_cmpstring"], recurses := true, apart := false }
def LawS3429ABigFrozenSaid : Prop := lawS3429ABigFrozenRow.holds Yba.pinned (OpenSpec.ofChange lawS3429ABigFrozenSpec)

/-- ITS FALSE NEIGHBOUR: 'it returns false'. Refute it at one input. -/
def lawS3429ABigFrozenWrong : ChangeSpec := { name := "lawS3429ABigFrozen", fn := fun _ => fun
  | [d1, d2, d3, d4, d5] => { results := [.lit (.bool false)], args := [d1, d2, d3, d4, d5] }
  | _ => none }
def LawS3429ABigFrozenWrongFalsely : Prop := lawS3429ABigFrozenRow.holds Yba.pinned (OpenSpec.ofChange lawS3429ABigFrozenWrong)

/-- 'raft.LawS3429BExact': WHATEVER THE INPUT: true; the input reads as it did. -/
def lawS3429BExactSpec : ChangeSpec := { name := "lawS3429BExact", fn := fun _ => fun
  | [d1, d2, d3, d4, d5] => { results := [.lit (.bool true)], args := [d1, d2, d3, d4, d5] }
  | _ => none }
def lawS3429BExactRow : OpenClaim := { program := "ybulkbrzk", sum := "196f533dced3f6de16b0d0542889b668fb7bb8c49e04ba1cb70e3d600cf6d415", func := "example.com/quorumkeep/quorumkeep/internal/raft.LawS3429BExact", spec := "lawS3429BExact", apart := false }
def LawS3429BExactSaid : Prop := lawS3429BExactRow.holds Yba.pinned (OpenSpec.ofChange lawS3429BExactSpec)

/-- ITS FALSE NEIGHBOUR: 'it returns false'. Refute it at one input. -/
def lawS3429BExactWrong : ChangeSpec := { name := "lawS3429BExact", fn := fun _ => fun
  | [d1, d2, d3, d4, d5] => { results := [.lit (.bool false)], args := [d1, d2, d3, d4, d5] }
  | _ => none }
def LawS3429BExactWrongFalsely : Prop := lawS3429BExactRow.holds Yba.pinned (OpenSpec.ofChange lawS3429BExactWrong)

/-- 'raft.LawS3429BNear': WHATEVER THE INPUT: true; the input reads as it did. -/
def lawS3429BNearSpec : ChangeSpec := { name := "lawS3429BNear", fn := fun _ => fun
  | [d1, d2, d3, d4, d5] => { results := [.lit (.bool true)], args := [d1, d2, d3, d4, d5] }
  | _ => none }
def lawS3429BNearRow : OpenClaim := { program := "ybulkbrzk", sum := "196f533dced3f6de16b0d0542889b668fb7bb8c49e04ba1cb70e3d600cf6d415", func := "example.com/quorumkeep/quorumkeep/internal/raft.LawS3429BNear", spec := "lawS3429BNear", apart := false }
def LawS3429BNearSaid : Prop := lawS3429BNearRow.holds Yba.pinned (OpenSpec.ofChange lawS3429BNearSpec)

/-- ITS FALSE NEIGHBOUR: 'it returns false'. Refute it at one input. -/
def lawS3429BNearWrong : ChangeSpec := { name := "lawS3429BNear", fn := fun _ => fun
  | [d1, d2, d3, d4, d5] => { results := [.lit (.bool false)], args := [d1, d2, d3, d4, d5] }
  | _ => none }
def LawS3429BNearWrongFalsely : Prop := lawS3429BNearRow.holds Yba.pinned (OpenSpec.ofChange lawS3429BNearWrong)

/-- 'raft.LawS3429CExact': WHATEVER THE INPUT: true; the input reads as it did. -/
def lawS3429CExactSpec : ChangeSpec := { name := "lawS3429CExact", fn := fun _ => fun
  | [d1, d2, d3, d4, d5, d6, d7] => { results := [.lit (.bool true)], args := [d1, d2, d3, d4, d5, d6, d7] }
  | _ => none }
def lawS3429CExactRow : OpenClaim := { program := "ybulkbrzk", sum := "196f533dced3f6de16b0d0542889b668fb7bb8c49e04ba1cb70e3d600cf6d415", func := "example.com/quorumkeep/quorumkeep/internal/raft.LawS3429CExact", spec := "lawS3429CExact", unfollowed := true, recurses := true, apart := false }
def LawS3429CExactSaid : Prop := lawS3429CExactRow.holds Yba.pinned (OpenSpec.ofChange lawS3429CExactSpec)

/-- ITS FALSE NEIGHBOUR: 'it returns false'. Refute it at one input. -/
def lawS3429CExactWrong : ChangeSpec := { name := "lawS3429CExact", fn := fun _ => fun
  | [d1, d2, d3, d4, d5, d6, d7] => { results := [.lit (.bool false)], args := [d1, d2, d3, d4, d5, d6, d7] }
  | _ => none }
def LawS3429CExactWrongFalsely : Prop := lawS3429CExactRow.holds Yba.pinned (OpenSpec.ofChange lawS3429CExactWrong)

end Rows
end Go.Proofs.Ybulkbrzk
