/-
  DERIVED. GIVEN WITH THE SEED: THE CARDS: each row of YbulkblgkFmtRows.lean that lists a variable, with what it lists TIED to the program's text (the seventh form; the later family's looks); each row that meets fmt, with fmt's text TOLD by the authors' own Lean function (tested against real Go, not proved from fmt's source: count such statements apart). THE CARD IS WHAT COUNTS. Prove the row's statement (the work); the ties are given (YbulkblgkFmtTie.lean); close each card by the builder's one call (the guide's Derived/Test/ToyasCard.lean, 'card_holds'). Laid BY PROGRAM, IN A SANDBOX (cutbox-door.mjs). By AI agents, Wed Nov 11 2026. No macro, syntax, notation, axiom, sorry.
-/
import Derived.Test.YbulkblgkFmtRows
import GoSem.ClaimSeven
namespace Go.Proofs.YbulkblgkFmt
namespace Rows

/-- THE TOLD CARD OF 'api.LawS3104AModel'. -/
def lawS3104AModelCard : Claim7 := { stood := { row := lawS3104AModelRow, standIns := [], harness := (true, "5784e1cb0d995f57a23b175c8b9f7b55a8381b73f36e2aec7c8e79225ec3ea4b"), looks := false }, told := true, goes := false }
def LawS3104AModelToldSaid : Prop := Claim7.holds Ybaf.pinned (.plain (OpenSpec.ofChange lawS3104AModelSpec)) lawS3104AModelCard
/-- ITS FALSE NEIGHBOUR. Refute it at one input. -/
def LawS3104AModelToldWrongFalsely : Prop := Claim7.holds Ybaf.pinned (.plain (OpenSpec.ofChange lawS3104AModelWrong)) lawS3104AModelCard

/-- THE TOLD CARD OF 'api.LawS3104ABuilt'. -/
def lawS3104ABuiltCard : Claim7 := { stood := { row := lawS3104ABuiltRow, standIns := [], harness := (true, "5784e1cb0d995f57a23b175c8b9f7b55a8381b73f36e2aec7c8e79225ec3ea4b"), looks := false }, told := true, goes := false }
def LawS3104ABuiltToldSaid : Prop := Claim7.holds Ybaf.pinned (.plain (OpenSpec.ofChange lawS3104ABuiltSpec)) lawS3104ABuiltCard
/-- ITS FALSE NEIGHBOUR. Refute it at one input. -/
def LawS3104ABuiltToldWrongFalsely : Prop := Claim7.holds Ybaf.pinned (.plain (OpenSpec.ofChange lawS3104ABuiltWrong)) lawS3104ABuiltCard
end Rows
end Go.Proofs.YbulkblgkFmt
