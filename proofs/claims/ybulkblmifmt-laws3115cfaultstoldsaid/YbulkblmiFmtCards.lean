/-
  DERIVED. GIVEN WITH THE SEED: THE CARDS: each row of YbulkblmiFmtRows.lean that lists a variable, with what it lists TIED to the program's text (the seventh form; the later family's looks); each row that meets fmt, with fmt's text TOLD by the authors' own Lean function (tested against real Go, not proved from fmt's source: count such statements apart). THE CARD IS WHAT COUNTS. Prove the row's statement (the work); the ties are given (YbulkblmiFmtTie.lean); close each card by the builder's one call (the guide's Derived/Test/ToyasCard.lean, 'card_holds'). Laid BY PROGRAM, IN A SANDBOX (cutbox-door.mjs). By AI agents, Wed Nov 11 2026. No macro, syntax, notation, axiom, sorry.
-/
import Derived.Test.YbulkblmiFmtRows
import GoSem.ClaimSeven
namespace Go.Proofs.YbulkblmiFmt
namespace Rows

/-- THE TOLD CARD OF 'levo.LawS3115CFaults'. -/
def lawS3115CFaultsCard : Claim7 := { stood := { row := lawS3115CFaultsRow, standIns := [], harness := (true, "faf40fe8bfda41253bd774feb6e8d1a4198f429d5e8fbc6deabaaac20ff1d9f5"), looks := false }, told := true, goes := false }
def LawS3115CFaultsToldSaid : Prop := Claim7.holds Ybaf.pinned (.plain (OpenSpec.ofChange lawS3115CFaultsSpec)) lawS3115CFaultsCard
/-- ITS FALSE NEIGHBOUR. Refute it at one input. -/
def LawS3115CFaultsToldWrongFalsely : Prop := Claim7.holds Ybaf.pinned (.plain (OpenSpec.ofChange lawS3115CFaultsWrong)) lawS3115CFaultsCard
end Rows
end Go.Proofs.YbulkblmiFmt
