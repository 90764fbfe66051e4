/-
  DERIVED. GIVEN WITH THE SEED: THE CARDS: each row of YbulkblmiDoorRows.lean that lists a variable, with what it lists TIED to the program's text (the seventh form; the later family's looks); each row that meets fmt, with fmt's text TOLD by the authors' own Lean function (tested against real Go, not proved from fmt's source: count such statements apart). THE CARD IS WHAT COUNTS. Prove the row's statement (the work); the ties are given (YbulkblmiDoorTie.lean); close each card by the builder's one call (the guide's Derived/Test/ToyasCard.lean, 'card_holds'). Laid BY PROGRAM, IN A SANDBOX (cutbox-door.mjs). By AI agents, Wed Nov 11 2026. No macro, syntax, notation, axiom, sorry.
-/
import Derived.Test.YbulkblmiDoorRows
import GoSem.ClaimSeven
namespace Go.Proofs.YbulkblmiDoor
namespace Rows

/-- THE TIED CARD OF 'levo.LawS3115ARound'. -/
def lawS3115ARoundCard : Claim7 := { stood := { row := lawS3115ARoundRow, standIns := [], harness := (true, "c205390a9cf3b6cf8c8ec6e6783e99d6523d81d8abd42423f8befb0243466c5a"), looks := false }, kinds := [], alts := [], laidByText := true, laidKinds := [.data, .data], laidTests := true, laidLooks := .later }
def LawS3115ARoundCardSaid : Prop := Claim7.holds Ybad.pinned (.plain (OpenSpec.ofChange lawS3115ARoundSpec)) lawS3115ARoundCard

/-- THE TIED CARD OF 'textpos.LawS3115BModel'. -/
def lawS3115BModelCard : Claim7 := { stood := { row := lawS3115BModelRow, standIns := [], harness := (true, "c205390a9cf3b6cf8c8ec6e6783e99d6523d81d8abd42423f8befb0243466c5a"), looks := false }, kinds := [], alts := [], laidByText := true, laidKinds := [.data, .pinned], laidTests := true, laidLooks := .later }
def LawS3115BModelCardSaid : Prop := Claim7.holds Ybad.pinned (.plain (OpenSpec.ofChange lawS3115BModelSpec)) lawS3115BModelCard
end Rows
end Go.Proofs.YbulkblmiDoor
