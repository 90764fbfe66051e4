/-
  No cell of these rows narrows 'for every input' (looked for: loops, veiled, ifaces, maps, wideKeys, modest, calm, conditions, laid).
  DERIVED. THE GIVEN ROWS OF THIS SEAT. 2 by the template 'for every input the law returns true; each argument reads behind the call as it read before'; 0 by the template 'total and deterministic' (their statements: YbulkbllgTotals.lean).
  GIVEN WITH THE SEED: the statements are not yours to turn. If you find one false, say at which input.
  Laid BY PROGRAM, IN A SANDBOX (cutbox-rows.mjs): the forced cells as the released guide's own fill.sh prints them over the translation bfcfa252ed5f51d9… (all of the seat's roots in one cut). By AI agents, Wed Nov 11 2026. No macro, syntax, notation, axiom, sorry.
-/
import Derived.Test.YbulkbllgChecked
import GoSem.Claim
import GoSem.ClaimJoined
import GoSem.ClaimMapViews
import Derived.JoinedTies
import Derived.KernelRfl
namespace Go.Proofs.Ybulkbllg
/- THE CELL 'sum', in the pinned program and in every row, IS THE sha256 OF THE DUMP (.gsa) THAT YbulkbllgProg.lean LOADS. Nothing in Lean hashes anything: it is a label: what it is worth is what the hold of that sum in a sandbox is worth. -/
noncomputable def Yba.pinned : Pinned := { name := "ybulkbllg", sum := "bfcfa252ed5f51d92358ec0df8e220fbca21fb53858ec05b8d111b40bf01a7ce", checked := Yba.checked }
namespace Rows
def none {H : Type} : Left H := { results := [], args := [] }

/-- 'topology.LawS3113CExact': WHATEVER THE INPUT: true; the input reads as it did. -/
def lawS3113CExactSpec : ChangeSpec := { name := "lawS3113CExact", fn := fun _ => fun
  | [d1, d2] => { results := [.lit (.bool true)], args := [d1, d2] }
  | _ => none }
def lawS3113CExactRow : OpenClaim := { program := "ybulkbllg", sum := "bfcfa252ed5f51d92358ec0df8e220fbca21fb53858ec05b8d111b40bf01a7ce", func := "example.com/lodestone/lodestone/internal/topology.LawS3113CExact", spec := "lawS3113CExact", inPlace := ["math/bits.Sub64", "math/bits.Add64"], named := ["encoding/binary.BigEndian"], apart := false }
def LawS3113CExactSaid : Prop := lawS3113CExactRow.holds Yba.pinned (OpenSpec.ofChange lawS3113CExactSpec)

/-- ITS FALSE NEIGHBOUR: 'it returns false'. Refute it at one input. -/
def lawS3113CExactWrong : ChangeSpec := { name := "lawS3113CExact", fn := fun _ => fun
  | [d1, d2] => { results := [.lit (.bool false)], args := [d1, d2] }
  | _ => none }
def LawS3113CExactWrongFalsely : Prop := lawS3113CExactRow.holds Yba.pinned (OpenSpec.ofChange lawS3113CExactWrong)

/-- 'topology.LawS3113CComplement': WHATEVER THE INPUT: true; the input reads as it did. -/
def lawS3113CComplementSpec : ChangeSpec := { name := "lawS3113CComplement", fn := fun _ => fun
  | [d1, d2] => { results := [.lit (.bool true)], args := [d1, d2] }
  | _ => none }
def lawS3113CComplementRow : OpenClaim := { program := "ybulkbllg", sum := "bfcfa252ed5f51d92358ec0df8e220fbca21fb53858ec05b8d111b40bf01a7ce", func := "example.com/lodestone/lodestone/internal/topology.LawS3113CComplement", spec := "lawS3113CComplement", inPlace := ["math/bits.Sub64", "math/bits.Add64"], named := ["encoding/binary.BigEndian"], apart := false }
def LawS3113CComplementSaid : Prop := lawS3113CComplementRow.holds Yba.pinned (OpenSpec.ofChange lawS3113CComplementSpec)

/-- ITS FALSE NEIGHBOUR: 'it returns false'. Refute it at one input. -/
def lawS3113CComplementWrong : ChangeSpec := { name := "lawS3113CComplement", fn := fun _ => fun
  | [d1, d2] => { results := [.lit (.bool false)], args := [d1, d2] }
  | _ => none }
def LawS3113CComplementWrongFalsely : Prop := lawS3113CComplementRow.holds Yba.pinned (OpenSpec.ofChange lawS3113CComplementWrong)

end Rows
end Go.Proofs.Ybulkbllg
