/-
  No cell of these rows narrows 'for every input' (looked for: loops, veiled, ifaces, maps, wideKeys, modest, calm, conditions, laid).
  DERIVED. THE GIVEN ROWS OF THIS SEAT. 1 by the template 'for every input the law returns true; each argument reads behind the call as it read before'; 0 by the template 'total and deterministic' (their statements: YbulkblmiFmtTotals.lean).
  GIVEN WITH THE SEED: the statements are not yours to turn. If you find one false, say at which input.
  Laid BY PROGRAM, IN A SANDBOX (cutbox-rows.mjs): the forced cells as the released guide's own fill.sh prints them over the translation c39de1363bcfc7ec… (all of the seat's roots in one cut). By AI agents, Wed Nov 11 2026. No macro, syntax, notation, axiom, sorry.
-/
import Derived.Test.YbulkblmiFmtChecked
import GoSem.Claim
import GoSem.ClaimJoined
import GoSem.ClaimMapViews
import Derived.JoinedTies
import Derived.KernelRfl
namespace Go.Proofs.YbulkblmiFmt
/- THE CELL 'sum', in the pinned program and in every row, IS THE sha256 OF THE DUMP (.gsa) THAT YbulkblmiFmtProg.lean LOADS. Nothing in Lean hashes anything: it is a label: what it is worth is what the hold of that sum in a sandbox is worth. -/
noncomputable def Ybaf.pinned : Pinned := { name := "ybulkblmifmt", sum := "c39de1363bcfc7eccb4790f175727558921b9736784622296949d8544b13954f", checked := Ybaf.checked }
namespace Rows
def none {H : Type} : Left H := { results := [], args := [] }

/-- 'levo.LawS3115CFaults': WHATEVER THE INPUT: true; the input reads as it did. -/
def lawS3115CFaultsSpec : ChangeSpec := { name := "lawS3115CFaults", fn := fun _ => fun
  | [d] => { results := [.lit (.bool true)], args := [d] }
  | _ => none }
def lawS3115CFaultsRow : OpenClaim := { program := "ybulkblmifmt", sum := "c39de1363bcfc7eccb4790f175727558921b9736784622296949d8544b13954f", func := "example.com/levo/levo.LawS3115CFaults", spec := "lawS3115CFaults", stops := ["fmt.Sprintf"], inPlace := ["fmt.Sprintf"], unfollowed := true, recurses := true, apart := false }
/-- NO THEOREM (fmt's text is open here; it may be false): for the released tool's asking of the row's closed facts alone. THE STATEMENT IS 'LawS3115CFaultsToldSaid' (YbulkblmiFmtCards.lean). -/
def LawS3115CFaultsFormAsk : Prop := lawS3115CFaultsRow.holds Ybaf.pinned (OpenSpec.ofChange lawS3115CFaultsSpec)

/-- ITS FALSE NEIGHBOUR: 'it returns false'. Refute it at one input. -/
def lawS3115CFaultsWrong : ChangeSpec := { name := "lawS3115CFaults", fn := fun _ => fun
  | [d] => { results := [.lit (.bool false)], args := [d] }
  | _ => none }
def LawS3115CFaultsWrongFormAsk : Prop := lawS3115CFaultsRow.holds Ybaf.pinned (OpenSpec.ofChange lawS3115CFaultsWrong)

end Rows
end Go.Proofs.YbulkblmiFmt
