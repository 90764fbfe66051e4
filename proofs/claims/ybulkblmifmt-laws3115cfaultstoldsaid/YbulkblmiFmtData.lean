/-
  What is known of the data.
-/
import Derived.Test.YbulkblmiFmtIn
namespace Go.Proofs.YbulkblmiFmt

/-- What is known of the data. -/
structure DataOk (n : Nat) (D : Nat → RuleD) : Prop where
  knd : ∀ u, u < n → ∀ it ∈ (D u).items, it.knd < 256
  tgt : ∀ u, u < n → ∀ it ∈ (D u).items, it.tgt < 256
  edge : ∀ u, u < n → ∀ v ∈ (D u).edges, v < 256
  il : ∀ u, u < n → (D u).items.length ≤ maxLen
  el : ∀ u, u < n → (D u).edges.length ≤ maxLen
end Go.Proofs.YbulkblmiFmt
