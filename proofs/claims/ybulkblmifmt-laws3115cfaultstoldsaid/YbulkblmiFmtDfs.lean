/-
  reachable: the marks of a search, plainly.
-/
import Derived.Test.YbulkblmiFmtReach
namespace Go.Proofs.YbulkblmiFmt

/-- Where the search stands: what is marked or waiting is reached; an edge from a marked point leads to a marked or a waiting one. -/
structure Dfs (E : Nat → List Nat) (s n : Nat) (m : List Bool) (todo : List Nat) : Prop where
  len : m.length = n
  tl : ∀ u ∈ todo, u < n
  start : m[s]? = some true ∨ s ∈ todo
  edge : ∀ u : Nat, m[u]? = some true → ∀ v ∈ E u, m[v]? = some true ∨ v ∈ todo
  rm : ∀ u : Nat, m[u]? = some true → Reach E s u
  rt : ∀ u ∈ todo, Reach E s u

theorem Dfs.at_start (E : Nat → List Nat) (s n : Nat) (hs : s < n) : Dfs E s n (List.replicate n false) [s] where
  len := by simp
  tl := by simp [hs]
  start := .inr (by simp)
  edge := by
    intro u hu
    rw [List.getElem?_replicate] at hu
    split at hu <;> simp at hu
  rm := by
    intro u hu
    rw [List.getElem?_replicate] at hu
    split at hu <;> simp at hu
  rt := by
    intro u hu
    simp at hu
    subst hu
    exact reach_self E u

theorem Dfs.passed {E : Nat → List Nat} {s n r : Nat} {m : List Bool} {todo : List Nat} (h : Dfs E s n m (todo ++ [r])) (hr : m[r]? = some true) : Dfs E s n m todo where
  len := h.len
  tl := fun u hu => h.tl u (by simp [hu])
  start := by
    rcases h.start with h1 | h1
    · exact .inl h1
    · simp at h1
      rcases h1 with h1 | h1
      · exact .inr h1
      · subst h1; exact .inl hr
  edge := by
    intro u hu v hv
    rcases h.edge u hu v hv with h1 | h1
    · exact .inl h1
    · simp at h1
      rcases h1 with h1 | h1
      · exact .inr h1
      · subst h1; exact .inl hr
  rm := h.rm
  rt := fun u hu => h.rt u (by simp [hu])

theorem Dfs.mark {E : Nat → List Nat} {s n r : Nat} {m : List Bool} {todo : List Nat} (h : Dfs E s n m (todo ++ [r])) (hE : ∀ u, u < n → ∀ v ∈ E u, v < n) : Dfs E s n (m.set r true) (todo ++ E r) := by
  have hrn : r < n := h.tl r (by simp)
  have hr : Reach E s r := h.rt r (by simp)
  have hset : ∀ u : Nat, (m.set r true)[u]? = some true → u = r ∨ m[u]? = some true := by
    intro u hu
    by_cases hur : u = r
    · exact .inl hur
    · rw [List.getElem?_set_ne (fun e => hur e.symm)] at hu
      exact .inr hu
  have hself : (m.set r true)[r]? = some true := by rw [List.getElem?_set_self (by rw [h.len]; exact hrn)]
  have hkeep : ∀ u : Nat, m[u]? = some true → (m.set r true)[u]? = some true := by
    intro u hu
    by_cases hur : u = r
    · subst hur; exact hself
    · rw [List.getElem?_set_ne (fun e => hur e.symm)]; exact hu
  refine ⟨by simp [h.len], ?_, ?_, ?_, ?_, ?_⟩
  · intro u hu
    simp at hu
    rcases hu with hu | hu
    · exact h.tl u (by simp [hu])
    · exact hE r hrn u hu
  · rcases h.start with h1 | h1
    · exact .inl (hkeep s h1)
    · simp at h1
      rcases h1 with h1 | h1
      · exact .inr (by simp [h1])
      · subst h1; exact .inl hself
  · intro u hu v hv
    rcases hset u hu with rfl | hu'
    · exact .inr (by simp [hv])
    · rcases h.edge u hu' v hv with h1 | h1
      · exact .inl (hkeep v h1)
      · simp at h1
        rcases h1 with h1 | h1
        · exact .inr (by simp [h1])
        · subst h1; exact .inl hself
  · intro u hu
    rcases hset u hu with rfl | hu'
    · exact hr
    · exact h.rm u hu'
  · intro u hu
    simp at hu
    rcases hu with hu | hu
    · exact h.rt u (by simp [hu])
    · exact reach_step hr hu

/-- The search's end: the marks are closed and hold what is reached alone. -/
theorem Dfs.ended {E : Nat → List Nat} {s n : Nat} {m : List Bool} (h : Dfs E s n m []) : m.length = n ∧ m[s]? = some true ∧ (∀ u : Nat, m[u]? = some true → ∀ v ∈ E u, m[v]? = some true) ∧ ∀ u : Nat, m[u]? = some true → Reach E s u := by
  refine ⟨h.len, ?_, ?_, h.rm⟩
  · rcases h.start with h1 | h1
    · exact h1
    · cases h1
  · intro u hu v hv
    rcases h.edge u hu v hv with h1 | h1
    · exact h1
    · cases h1
end Go.Proofs.YbulkblmiFmt
