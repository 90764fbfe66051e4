/-
  Reaching in a graph, no Go in sight: what lies in every closed set.
-/
import Derived.Test.YbulkblmiFmtProg
namespace Go.Proofs.YbulkblmiFmt

/-- S holds s, and with a point every point that an edge leads to. -/
def Closed (E : Nat → List Nat) (s : Nat) (S : Nat → Prop) : Prop := S s ∧ ∀ u, S u → ∀ v ∈ E u, S v

/-- v lies in every closed set that holds s. -/
def Reach (E : Nat → List Nat) (s v : Nat) : Prop := ∀ S : Nat → Prop, Closed E s S → S v

theorem reach_self (E : Nat → List Nat) (s : Nat) : Reach E s s := fun _ h => h.1
theorem reach_step {E : Nat → List Nat} {s u v : Nat} (h : Reach E s u) (hv : v ∈ E u) : Reach E s v := fun S hS => hS.2 u (h S hS) v hv

/-- A list of marks that is closed, and holds no more than what is reached: it is what is reached. -/
theorem marks_are {E : Nat → List Nat} {s n : Nat} {m : List Bool} (hn : m.length = n) (hs : m[s]? = some true) (hc : ∀ u : Nat, m[u]? = some true → ∀ v ∈ E u, m[v]? = some true) (hr : ∀ u : Nat, m[u]? = some true → Reach E s u) (v : Nat) (hv : v < n) : m[v]? = some (decide (m[v]? = some true)) ∧ (m[v]? = some true ↔ Reach E s v) := by
  refine ⟨?_, hr v, fun h => h (fun u => m[u]? = some true) ⟨hs, hc⟩⟩
  obtain ⟨b, hb⟩ : ∃ b, m[v]? = some b := ⟨_, List.getElem?_eq_getElem (by omega)⟩
  rw [hb]
  cases b <;> simp

/-- Two such lists of marks agree. -/
theorem marks_same {E : Nat → List Nat} {s n : Nat} {m m' : List Bool} (hn : m.length = n) (hn' : m'.length = n) (hs : m[s]? = some true) (hc : ∀ u : Nat, m[u]? = some true → ∀ v ∈ E u, m[v]? = some true) (hr : ∀ u : Nat, m[u]? = some true → Reach E s u)
    (hs' : m'[s]? = some true) (hc' : ∀ u : Nat, m'[u]? = some true → ∀ v ∈ E u, m'[v]? = some true) (hr' : ∀ u : Nat, m'[u]? = some true → Reach E s u) : m = m' := by
  apply List.ext_getElem?
  intro v
  by_cases hv : v < n
  · obtain ⟨e1, h1⟩ := marks_are hn hs hc hr v hv
    obtain ⟨e2, h2⟩ := marks_are hn' hs' hc' hr' v hv
    rw [e1, e2]
    by_cases h : Reach E s v
    · rw [decide_eq_true (h1.2 h), decide_eq_true (h2.2 h)]
    · rw [decide_eq_false (fun q => h (h1.1 q)), decide_eq_false (fun q => h (h2.1 q))]
  · rw [List.getElem?_eq_none (by omega), List.getElem?_eq_none (by omega)]

/-- How many marks are set. -/
def marked (m : List Bool) : Nat := (m.filter id).length
theorem marked_le (m : List Bool) : marked m ≤ m.length := List.length_filter_le _ _
theorem marked_set {m : List Bool} {v : Nat} (h : m[v]? = some false) : marked (m.set v true) = marked m + 1 := by
  induction m generalizing v with
  | nil => simp at h
  | cons b r ih =>
    cases v with
    | zero => simp at h; subst h; simp [marked]
    | succ v =>
      simp at h
      have := ih h
      cases b <;> simp [marked] at this ⊢ <;> omega
end Go.Proofs.YbulkblmiFmt
