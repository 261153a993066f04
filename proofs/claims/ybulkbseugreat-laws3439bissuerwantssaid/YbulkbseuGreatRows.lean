/-
  No cell of these rows narrows 'for every input' (looked for: loops, veiled, ifaces, maps, wideKeys, modest, calm, conditions, laid).
  DERIVED. THE GIVEN ROWS OF THIS SEAT. 2 by the template 'for every input the law returns true; each argument reads behind the call as it read before'; 0 by the template 'total and deterministic' (their statements: YbulkbseuGreatTotals.lean).
  GIVEN WITH THE SEED: the statements are not yours to turn. If you find one false, say at which input.
  Laid BY PROGRAM, IN A SANDBOX (cutbox-rows.mjs): the forced cells as the released guide's own fill.sh prints them over the translation 13861e9b146f3405… (all of the seat's roots in one cut). By AI agents, Wed Nov 11 2026. No macro, syntax, notation, axiom, sorry.
-/
import Derived.Test.YbulkbseuGreatChecked
import GoSem.Claim
import GoSem.ClaimJoined
import GoSem.ClaimMapViews
import Derived.JoinedTies
import Derived.KernelRfl
namespace Go.Proofs.YbulkbseuGreat
/- THE CELL 'sum', in the pinned program and in every row, IS THE sha256 OF THE DUMP (.gsa) THAT YbulkbseuGreatProg.lean LOADS. Nothing in Lean hashes anything: it is a label: what it is worth is what the hold of that sum in a sandbox is worth. -/
noncomputable def Ybaz.pinned : Pinned := { name := "ybulkbseugreat", sum := "13861e9b146f3405a6619a9c13a0739aba3be714bff92857d7777a0c86439303", checked := Ybaz.checked }
namespace Rows
def none {H : Type} : Left H := { results := [], args := [] }

/-- 'server.LawS3439BZoneAdds': WHATEVER THE INPUT: true; the input reads as it did. -/
def lawS3439BZoneAddsSpec : ChangeSpec := { name := "lawS3439BZoneAdds", fn := fun _ => fun
  | [d1, d2, d3, d4, d5] => { results := [.lit (.bool true)], args := [d1, d2, d3, d4, d5] }
  | _ => none }
def lawS3439BZoneAddsRow : OpenClaim := { program := "ybulkbseugreat", sum := "13861e9b146f3405a6619a9c13a0739aba3be714bff92857d7777a0c86439303", func := "example.com/tokentide/tokentide/internal/server.LawS3439BZoneAdds", spec := "lawS3439BZoneAdds", inPlace := ["(*internal/sync.Mutex).Lock", "internal/race.Disable", "sync/atomic.CompareAndSwapInt32", "internal/race.Enable", "internal/race.Acquire", "(*internal/sync.Mutex).lockSlow", "internal/sync.runtime_canSpin", "internal/sync.runtime_doSpin", "internal/sync.throw", "internal/sync.runtime_nanotime", "internal/sync.runtime_SemacquireMutex", "sync/atomic.AddInt32", "(*internal/sync.Mutex).Unlock", "internal/race.ReleaseMerge", "(*internal/sync.Mutex).unlockSlow", "internal/sync.fatal", "internal/sync.runtime_Semrelease", "sync/atomic.CompareAndSwapUint32"], plainKeys := false, apart := false }
def LawS3439BZoneAddsSaid : Prop := lawS3439BZoneAddsRow.holds Ybaz.pinned (OpenSpec.ofChange lawS3439BZoneAddsSpec)

/-- ITS FALSE NEIGHBOUR: 'it returns false'. Refute it at one input. -/
def lawS3439BZoneAddsWrong : ChangeSpec := { name := "lawS3439BZoneAdds", fn := fun _ => fun
  | [d1, d2, d3, d4, d5] => { results := [.lit (.bool false)], args := [d1, d2, d3, d4, d5] }
  | _ => none }
def LawS3439BZoneAddsWrongFalsely : Prop := lawS3439BZoneAddsRow.holds Ybaz.pinned (OpenSpec.ofChange lawS3439BZoneAddsWrong)

/-- 'server.LawS3439BIssuerWants': WHATEVER THE INPUT: true; the input reads as it did. -/
def lawS3439BIssuerWantsSpec : ChangeSpec := { name := "lawS3439BIssuerWants", fn := fun _ => fun
  | [d1, d2, d3, d4, d5] => { results := [.lit (.bool true)], args := [d1, d2, d3, d4, d5] }
  | _ => none }
def lawS3439BIssuerWantsRow : OpenClaim := { program := "ybulkbseugreat", sum := "13861e9b146f3405a6619a9c13a0739aba3be714bff92857d7777a0c86439303", func := "example.com/tokentide/tokentide/internal/server.LawS3439BIssuerWants", spec := "lawS3439BIssuerWants", inPlace := ["sync/atomic.StoreUint32", "sync/atomic.LoadUint32", "(*internal/sync.Mutex).Lock", "internal/race.Disable", "sync/atomic.CompareAndSwapInt32", "internal/race.Enable", "internal/race.Acquire", "(*internal/sync.Mutex).lockSlow", "internal/sync.runtime_canSpin", "internal/sync.runtime_doSpin", "internal/sync.throw", "internal/sync.runtime_nanotime", "internal/sync.runtime_SemacquireMutex", "sync/atomic.AddInt32", "(*internal/sync.Mutex).Unlock", "internal/race.ReleaseMerge", "(*internal/sync.Mutex).unlockSlow", "internal/sync.fatal", "internal/sync.runtime_Semrelease", "sync/atomic.CompareAndSwapUint32"], plainKeys := false, apart := false }
def LawS3439BIssuerWantsSaid : Prop := lawS3439BIssuerWantsRow.holds Ybaz.pinned (OpenSpec.ofChange lawS3439BIssuerWantsSpec)

/-- ITS FALSE NEIGHBOUR: 'it returns false'. Refute it at one input. -/
def lawS3439BIssuerWantsWrong : ChangeSpec := { name := "lawS3439BIssuerWants", fn := fun _ => fun
  | [d1, d2, d3, d4, d5] => { results := [.lit (.bool false)], args := [d1, d2, d3, d4, d5] }
  | _ => none }
def LawS3439BIssuerWantsWrongFalsely : Prop := lawS3439BIssuerWantsRow.holds Ybaz.pinned (OpenSpec.ofChange lawS3439BIssuerWantsWrong)

end Rows
end Go.Proofs.YbulkbseuGreat
