/-
  No cell of these rows narrows 'for every input' (looked for: loops, veiled, ifaces, maps, wideKeys, modest, calm, conditions, laid).
  DERIVED. THE GIVEN ROWS OF THIS SEAT. 2 by the template 'for every input the law returns true; each argument reads behind the call as it read before'; 0 by the template 'total and deterministic' (their statements: YbulkblgkFmtTotals.lean).
  GIVEN WITH THE SEED: the statements are not yours to turn. If you find one false, say at which input.
  Laid BY PROGRAM, IN A SANDBOX (cutbox-rows.mjs): the forced cells as the released guide's own fill.sh prints them over the translation ddd1806bea4c6ab6… (all of the seat's roots in one cut). By AI agents, Wed Nov 11 2026. No macro, syntax, notation, axiom, sorry.
-/
import Derived.Test.YbulkblgkFmtChecked
import GoSem.Claim
import GoSem.ClaimJoined
import GoSem.ClaimMapViews
import Derived.JoinedTies
import Derived.KernelRfl
namespace Go.Proofs.YbulkblgkFmt
/- THE CELL 'sum', in the pinned program and in every row, IS THE sha256 OF THE DUMP (.gsa) THAT YbulkblgkFmtProg.lean LOADS. Nothing in Lean hashes anything: it is a label: what it is worth is what the hold of that sum in a sandbox is worth. -/
noncomputable def Ybaf.pinned : Pinned := { name := "ybulkblgkfmt", sum := "ddd1806bea4c6ab6a91efa7ead51b975f146249c2ed788ebd5ad76126b0df5be", checked := Ybaf.checked }
namespace Rows
def none {H : Type} : Left H := { results := [], args := [] }

/-- 'api.LawS3104AModel': WHATEVER THE INPUT: true; the input reads as it did. -/
def lawS3104AModelSpec : ChangeSpec := { name := "lawS3104AModel", fn := fun _ => fun
  | [d] => { results := [.lit (.bool true)], args := [d] }
  | _ => none }
def lawS3104AModelRow : OpenClaim := { program := "ybulkblgkfmt", sum := "ddd1806bea4c6ab6a91efa7ead51b975f146249c2ed788ebd5ad76126b0df5be", func := "example.com/unanimo/unanimo/internal/api.LawS3104AModel", spec := "lawS3104AModel", stops := ["fmt.errorf"], inPlace := ["fmt.errorf"], unfollowed := true, recurses := true, apart := false }
/-- NO THEOREM (fmt's text is open here; it may be false): for the released tool's asking of the row's closed facts alone. THE STATEMENT IS 'LawS3104AModelToldSaid' (YbulkblgkFmtCards.lean). -/
def LawS3104AModelFormAsk : Prop := lawS3104AModelRow.holds Ybaf.pinned (OpenSpec.ofChange lawS3104AModelSpec)

/-- ITS FALSE NEIGHBOUR: 'it returns false'. Refute it at one input. -/
def lawS3104AModelWrong : ChangeSpec := { name := "lawS3104AModel", fn := fun _ => fun
  | [d] => { results := [.lit (.bool false)], args := [d] }
  | _ => none }
def LawS3104AModelWrongFormAsk : Prop := lawS3104AModelRow.holds Ybaf.pinned (OpenSpec.ofChange lawS3104AModelWrong)

/-- 'api.LawS3104ABuilt': WHATEVER THE INPUT: true; the input reads as it did. -/
def lawS3104ABuiltSpec : ChangeSpec := { name := "lawS3104ABuilt", fn := fun _ => fun
  | [d1, d2, d3, d4] => { results := [.lit (.bool true)], args := [d1, d2, d3, d4] }
  | _ => none }
def lawS3104ABuiltRow : OpenClaim := { program := "ybulkblgkfmt", sum := "ddd1806bea4c6ab6a91efa7ead51b975f146249c2ed788ebd5ad76126b0df5be", func := "example.com/unanimo/unanimo/internal/api.LawS3104ABuilt", spec := "lawS3104ABuilt", stops := ["fmt.errorf"], inPlace := ["fmt.errorf"], unfollowed := true, recurses := true, apart := false }
/-- NO THEOREM (fmt's text is open here; it may be false): for the released tool's asking of the row's closed facts alone. THE STATEMENT IS 'LawS3104ABuiltToldSaid' (YbulkblgkFmtCards.lean). -/
def LawS3104ABuiltFormAsk : Prop := lawS3104ABuiltRow.holds Ybaf.pinned (OpenSpec.ofChange lawS3104ABuiltSpec)

/-- ITS FALSE NEIGHBOUR: 'it returns false'. Refute it at one input. -/
def lawS3104ABuiltWrong : ChangeSpec := { name := "lawS3104ABuilt", fn := fun _ => fun
  | [d1, d2, d3, d4] => { results := [.lit (.bool false)], args := [d1, d2, d3, d4] }
  | _ => none }
def LawS3104ABuiltWrongFormAsk : Prop := lawS3104ABuiltRow.holds Ybaf.pinned (OpenSpec.ofChange lawS3104ABuiltWrong)

end Rows
end Go.Proofs.YbulkblgkFmt
