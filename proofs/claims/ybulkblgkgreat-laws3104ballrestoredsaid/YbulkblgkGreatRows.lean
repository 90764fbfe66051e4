/-
  No cell of these rows narrows 'for every input' (looked for: loops, veiled, ifaces, maps, wideKeys, modest, calm, conditions, laid).
  DERIVED. THE GIVEN ROWS OF THIS SEAT. 1 by the template 'for every input the law returns true; each argument reads behind the call as it read before'; 0 by the template 'total and deterministic' (their statements: YbulkblgkGreatTotals.lean).
  GIVEN WITH THE SEED: the statements are not yours to turn. If you find one false, say at which input.
  Laid BY PROGRAM, IN A SANDBOX (cutbox-rows.mjs): the forced cells as the released guide's own fill.sh prints them over the translation 06c873064dfe069b… (all of the seat's roots in one cut). By AI agents, Wed Nov 11 2026. No macro, syntax, notation, axiom, sorry.
-/
import Derived.Test.YbulkblgkGreatChecked
import GoSem.Claim
import GoSem.ClaimJoined
import GoSem.ClaimMapViews
import Derived.JoinedTies
import Derived.KernelRfl
namespace Go.Proofs.YbulkblgkGreat
/- THE CELL 'sum', in the pinned program and in every row, IS THE sha256 OF THE DUMP (.gsa) THAT YbulkblgkGreatProg.lean LOADS. Nothing in Lean hashes anything: it is a label: what it is worth is what the hold of that sum in a sandbox is worth. -/
noncomputable def Ybaz.pinned : Pinned := { name := "ybulkblgkgreat", sum := "06c873064dfe069b84de51af81c4d480a886076cfc198edb9717d0a71bf7b4eb", checked := Ybaz.checked }
namespace Rows
def none {H : Type} : Left H := { results := [], args := [] }

/-- 'shard.LawS3104BAllRestored': WHATEVER THE INPUT: true; the input reads as it did. -/
def lawS3104BAllRestoredSpec : ChangeSpec := { name := "lawS3104BAllRestored", fn := fun _ => fun
  | [d] => { results := [.lit (.bool true)], args := [d] }
  | _ => none }
def lawS3104BAllRestoredRow : OpenClaim := { program := "ybulkblgkgreat", sum := "06c873064dfe069b84de51af81c4d480a886076cfc198edb9717d0a71bf7b4eb", func := "example.com/unanimo/unanimo/internal/shard.LawS3104BAllRestored", spec := "lawS3104BAllRestored", inPlace := ["(*internal/sync.Mutex).Lock", "internal/race.Disable", "sync/atomic.CompareAndSwapInt32", "internal/race.Enable", "internal/race.Acquire", "(*internal/sync.Mutex).lockSlow", "internal/sync.runtime_canSpin", "internal/sync.runtime_doSpin", "internal/sync.throw", "internal/sync.runtime_nanotime", "internal/sync.runtime_SemacquireMutex", "sync/atomic.AddInt32", "(*internal/sync.Mutex).Unlock", "internal/race.ReleaseMerge", "(*internal/sync.Mutex).unlockSlow", "internal/sync.fatal", "internal/sync.runtime_Semrelease"], unfollowed := true, recurses := true, plainKeys := false, apart := false }
def LawS3104BAllRestoredSaid : Prop := lawS3104BAllRestoredRow.holds Ybaz.pinned (OpenSpec.ofChange lawS3104BAllRestoredSpec)

/-- ITS FALSE NEIGHBOUR: 'it returns false'. Refute it at one input. -/
def lawS3104BAllRestoredWrong : ChangeSpec := { name := "lawS3104BAllRestored", fn := fun _ => fun
  | [d] => { results := [.lit (.bool false)], args := [d] }
  | _ => none }
def LawS3104BAllRestoredWrongFalsely : Prop := lawS3104BAllRestoredRow.holds Ybaz.pinned (OpenSpec.ofChange lawS3104BAllRestoredWrong)

end Rows
end Go.Proofs.YbulkblgkGreat
