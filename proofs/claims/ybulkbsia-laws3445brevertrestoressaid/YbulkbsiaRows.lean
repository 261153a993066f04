/-
  No cell of these rows narrows 'for every input' (looked for: loops, veiled, ifaces, maps, wideKeys, modest, calm, conditions, laid).
  DERIVED. THE GIVEN ROWS OF THIS SEAT. 1 by the template 'for every input the law returns true; each argument reads behind the call as it read before'; 0 by the template 'total and deterministic' (their statements: YbulkbsiaTotals.lean).
  GIVEN WITH THE SEED: the statements are not yours to turn. If you find one false, say at which input.
  Laid BY PROGRAM, IN A SANDBOX (cutbox-rows.mjs): the forced cells as the released guide's own fill.sh prints them over the translation 8011666ed4c58926… (all of the seat's roots in one cut). By AI agents, Wed Nov 11 2026. No macro, syntax, notation, axiom, sorry.
-/
import Derived.Test.YbulkbsiaChecked
import GoSem.Claim
import GoSem.ClaimJoined
import GoSem.ClaimMapViews
import Derived.JoinedTies
import Derived.KernelRfl
namespace Go.Proofs.Ybulkbsia
/- THE CELL 'sum', in the pinned program and in every row, IS THE sha256 OF THE DUMP (.gsa) THAT YbulkbsiaProg.lean LOADS. Nothing in Lean hashes anything: it is a label: what it is worth is what the hold of that sum in a sandbox is worth. -/
noncomputable def Yba.pinned : Pinned := { name := "ybulkbsia", sum := "8011666ed4c589269fef072cb6d203267980c3dacf240d866719198777c48190", checked := Yba.checked }
namespace Rows
def none {H : Type} : Left H := { results := [], args := [] }

/-- 'engine.LawS3445BRevertRestores': WHATEVER THE INPUT: true; the input reads as it did. -/
def lawS3445BRevertRestoresSpec : ChangeSpec := { name := "lawS3445BRevertRestores", fn := fun _ => fun
  | [d1, d2, d3] => { results := [.lit (.bool true)], args := [d1, d2, d3] }
  | _ => none }
def lawS3445BRevertRestoresRow : OpenClaim := { program := "ybulkbsia", sum := "8011666ed4c589269fef072cb6d203267980c3dacf240d866719198777c48190", func := "example.com/fillwise/fillwise/pkg/engine.LawS3445BRevertRestores", spec := "lawS3445BRevertRestores", unfollowed := true, recurses := true, apart := false }
def LawS3445BRevertRestoresSaid : Prop := lawS3445BRevertRestoresRow.holds Yba.pinned (OpenSpec.ofChange lawS3445BRevertRestoresSpec)

/-- ITS FALSE NEIGHBOUR: 'it returns false'. Refute it at one input. -/
def lawS3445BRevertRestoresWrong : ChangeSpec := { name := "lawS3445BRevertRestores", fn := fun _ => fun
  | [d1, d2, d3] => { results := [.lit (.bool false)], args := [d1, d2, d3] }
  | _ => none }
def LawS3445BRevertRestoresWrongFalsely : Prop := lawS3445BRevertRestoresRow.holds Yba.pinned (OpenSpec.ofChange lawS3445BRevertRestoresWrong)

end Rows
end Go.Proofs.Ybulkbsia
