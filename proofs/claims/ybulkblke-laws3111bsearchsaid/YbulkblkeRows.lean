/-
  No cell of these rows narrows 'for every input' (looked for: loops, veiled, ifaces, maps, wideKeys, modest, calm, conditions, laid).
  DERIVED. THE GIVEN ROWS OF THIS SEAT. 2 by the template 'for every input the law returns true; each argument reads behind the call as it read before'; 0 by the template 'total and deterministic' (their statements: YbulkblkeTotals.lean).
  GIVEN WITH THE SEED: the statements are not yours to turn. If you find one false, say at which input.
  Laid BY PROGRAM, IN A SANDBOX (cutbox-rows.mjs): the forced cells as the released guide's own fill.sh prints them over the translation 2e30fa360d4f4396… (all of the seat's roots in one cut). By AI agents, Wed Nov 11 2026. No macro, syntax, notation, axiom, sorry.
-/
import Derived.Test.YbulkblkeChecked
import GoSem.Claim
import GoSem.ClaimJoined
import GoSem.ClaimMapViews
import Derived.JoinedTies
import Derived.KernelRfl
namespace Go.Proofs.Ybulkblke
/- THE CELL 'sum', in the pinned program and in every row, IS THE sha256 OF THE DUMP (.gsa) THAT YbulkblkeProg.lean LOADS. Nothing in Lean hashes anything: it is a label: what it is worth is what the hold of that sum in a sandbox is worth. -/
noncomputable def Yba.pinned : Pinned := { name := "ybulkblke", sum := "2e30fa360d4f4396a3b14774530131bfb819c62869442eb4e31c15a63543cd05", checked := Yba.checked }
namespace Rows
def none {H : Type} : Left H := { results := [], args := [] }

/-- 'mvcc.LawS3111BSearch': WHATEVER THE INPUT: true; the input reads as it did. -/
def lawS3111BSearchSpec : ChangeSpec := { name := "lawS3111BSearch", fn := fun _ => fun
  | [d1, d2, d3, d4] => { results := [.lit (.bool true)], args := [d1, d2, d3, d4] }
  | _ => none }
def lawS3111BSearchRow : OpenClaim := { program := "ybulkblke", sum := "2e30fa360d4f4396a3b14774530131bfb819c62869442eb4e31c15a63543cd05", func := "example.com/interlace/interlace/internal/mvcc.LawS3111BSearch", spec := "lawS3111BSearch", unfollowed := true, recurses := true, apart := false }
def LawS3111BSearchSaid : Prop := lawS3111BSearchRow.holds Yba.pinned (OpenSpec.ofChange lawS3111BSearchSpec)

/-- ITS FALSE NEIGHBOUR: 'it returns false'. Refute it at one input. -/
def lawS3111BSearchWrong : ChangeSpec := { name := "lawS3111BSearch", fn := fun _ => fun
  | [d1, d2, d3, d4] => { results := [.lit (.bool false)], args := [d1, d2, d3, d4] }
  | _ => none }
def LawS3111BSearchWrongFalsely : Prop := lawS3111BSearchRow.holds Yba.pinned (OpenSpec.ofChange lawS3111BSearchWrong)

/-- 'mvcc.LawS3111BEmpty': WHATEVER THE INPUT: true; the input reads as it did. -/
def lawS3111BEmptySpec : ChangeSpec := { name := "lawS3111BEmpty", fn := fun _ => fun
  | [d1, d2] => { results := [.lit (.bool true)], args := [d1, d2] }
  | _ => none }
def lawS3111BEmptyRow : OpenClaim := { program := "ybulkblke", sum := "2e30fa360d4f4396a3b14774530131bfb819c62869442eb4e31c15a63543cd05", func := "example.com/interlace/interlace/internal/mvcc.LawS3111BEmpty", spec := "lawS3111BEmpty", unfollowed := true, recurses := true, apart := false }
def LawS3111BEmptySaid : Prop := lawS3111BEmptyRow.holds Yba.pinned (OpenSpec.ofChange lawS3111BEmptySpec)

/-- ITS FALSE NEIGHBOUR: 'it returns false'. Refute it at one input. -/
def lawS3111BEmptyWrong : ChangeSpec := { name := "lawS3111BEmpty", fn := fun _ => fun
  | [d1, d2] => { results := [.lit (.bool false)], args := [d1, d2] }
  | _ => none }
def LawS3111BEmptyWrongFalsely : Prop := lawS3111BEmptyRow.holds Yba.pinned (OpenSpec.ofChange lawS3111BEmptyWrong)

end Rows
end Go.Proofs.Ybulkblke
