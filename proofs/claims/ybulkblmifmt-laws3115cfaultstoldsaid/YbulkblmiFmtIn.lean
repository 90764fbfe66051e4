/-
  The law's input, as it lies; reaching by rounds.
-/
import Derived.Test.YbulkblmiFmtReachable
import Derived.Deep.Light
namespace Go.Proofs.YbulkblmiFmt
open Go.RowKit

/-- An item as data. -/
structure Item where
  knd : Nat
  tgt : Nat
  em : Bool
/-- A rule as data. -/
structure RuleD where
  ch : Bool
  items : List Item
  edges : List Nat

/-- The items of a rule lie behind io. -/
def ItemsAt (w : World) (io : Option Addr) (its : List Item) : Prop := its = [] ∨ ∃ ib iq, io = some ⟨ib, iq, none⟩ ∧ ∀ (j : Nat) it, its[j]? = some it → w.cell? ⟨ib, iq + 3 * j, none⟩ = some (.int .u8 (it.knd : Nat)) ∧ w.cell? ⟨ib, iq + 3 * j + 1, none⟩ = some (.int .u8 (it.tgt : Nat)) ∧ w.cell? ⟨ib, iq + 3 * j + 2, none⟩ = some (.bool it.em)
def EdgesAt (w : World) (eo : Option Addr) (es : List Nat) : Prop := es = [] ∨ ∃ eb eq, eo = some ⟨eb, eq, none⟩ ∧ ∀ (j : Nat) v, es[j]? = some v → w.cell? ⟨eb, eq + j, none⟩ = some (.int .u8 (v : Nat))
/-- The rules lie in block ab from q on. -/
def RulesAt (w : World) (ab q n : Nat) (D : Nat → RuleD) : Prop := ∀ u, u < n → ∃ io ic eo ec, w.cell? ⟨ab, q + 3 * u, none⟩ = some (.bool (D u).ch) ∧ w.cell? ⟨ab, q + 3 * u + 1, none⟩ = some (.slice io (D u).items.length ic) ∧ w.cell? ⟨ab, q + 3 * u + 2, none⟩ = some (.slice eo (D u).edges.length ec) ∧ ItemsAt w io (D u).items ∧ EdgesAt w eo (D u).edges

theorem cell_below {w w' : World} {B : Nat} (hb : Below B w w') (hB : w.heap.size ≤ B) {p : Addr} {v : Value} (h : w.cell? p = some v) : w'.cell? p = some v := by
  rw [← h]; exact World.cell?_of_block (hb.block _ (Nat.lt_of_lt_of_le (World.block_lt_of_cell? w _ h) hB))
theorem ItemsAt.below {w w' : World} {io : Option Addr} {its : List Item} (h : ItemsAt w io its) (hb : Below w.heap.size w w') : ItemsAt w' io its := by
  rcases h with h | ⟨ib, iq, h1, h2⟩
  · exact .inl h
  · exact .inr ⟨ib, iq, h1, fun j it hj => ⟨cell_below hb (Nat.le_refl _) (h2 j it hj).1, cell_below hb (Nat.le_refl _) (h2 j it hj).2.1, cell_below hb (Nat.le_refl _) (h2 j it hj).2.2⟩⟩
theorem EdgesAt.below {w w' : World} {eo : Option Addr} {es : List Nat} (h : EdgesAt w eo es) (hb : Below w.heap.size w w') : EdgesAt w' eo es := by
  rcases h with h | ⟨ib, iq, h1, h2⟩
  · exact .inl h
  · exact .inr ⟨ib, iq, h1, fun j it hj => cell_below hb (Nat.le_refl _) (h2 j it hj)⟩
theorem RulesAt.below {w w' : World} {ab q n : Nat} {D : Nat → RuleD} (h : RulesAt w ab q n D) (hb : Below w.heap.size w w') : RulesAt w' ab q n D := by
  intro u hu
  obtain ⟨io, ic, eo, ec, h1, h2, h3, h4, h5⟩ := h u hu
  exact ⟨io, ic, eo, ec, cell_below hb (Nat.le_refl _) h1, cell_below hb (Nat.le_refl _) h2, cell_below hb (Nat.le_refl _) h3, h4.below hb, h5.below hb⟩

/-- The call graph of the data. -/
def graphOf (n : Nat) (D : Nat → RuleD) (u : Nat) : List Nat := (D u).edges.map (· % n)

/-- A search by rounds: what is marked is reached. -/
structure Rds (E : Nat → List Nat) (s n : Nat) (m : List Bool) : Prop where
  len : m.length = n
  start : m[s]? = some true
  rm : ∀ u : Nat, m[u]? = some true → Reach E s u
/-- Within a round that began with m0. -/
def Half (E : Nat → List Nat) (m0 m : List Bool) (u j : Nat) (ch : Bool) : Prop :=
  (ch = false ∧ m = m0 ∧ (∀ u', u' < u → m0[u']? = some true → ∀ v ∈ E u', m0[v]? = some true) ∧ ∀ j' v, j' < j → (E u)[j']? = some v → m0[u]? = some true → m0[v]? = some true) ∨ (ch = true ∧ marked m0 < marked m)

theorem Rds.at_start (E : Nat → List Nat) {s n : Nat} (hs : s < n) : Rds E s n ((List.replicate n false).set s true) := by
  refine ⟨by simp, by rw [List.getElem?_set_self (by simpa using hs)], ?_⟩
  intro u hu
  by_cases h : u = s
  · subst h; exact reach_self E u
  · rw [List.getElem?_set_ne (fun e => h e.symm), List.getElem?_replicate] at hu
    split at hu <;> simp at hu
theorem Rds.mark {E : Nat → List Nat} {s n u v : Nat} {m : List Bool} (h : Rds E s n m) (hu : m[u]? = some true) (hv : v ∈ E u) (hvn : v < n) : Rds E s n (m.set v true) := by
  refine ⟨by simp [h.len], ?_, ?_⟩
  · by_cases e : v = s
    · subst e; rw [List.getElem?_set_self (by rw [h.len]; exact hvn)]
    · rw [List.getElem?_set_ne e]; exact h.start
  · intro x hx
    by_cases e : x = v
    · subst e; exact reach_step (h.rm u hu) hv
    · rw [List.getElem?_set_ne (fun q => e q.symm)] at hx; exact h.rm x hx
theorem keep_true {m : List Bool} {u v : Nat} (h : m[u]? = some true) : (m.set v true)[u]? = some true := by
  by_cases e : v = u
  · subst e
    have hl : v < m.length := by
      rcases Nat.lt_or_ge v m.length with h1 | h1
      · exact h1
      · rw [List.getElem?_eq_none h1] at h; cases h
    rw [List.getElem?_set_self hl]
  · rw [List.getElem?_set_ne e]; exact h
theorem Half.at_start (E : Nat → List Nat) (m : List Bool) : Half E m m 0 0 false := .inl ⟨rfl, rfl, fun _ h => absurd h (Nat.not_lt_zero _), fun _ _ h => absurd h (Nat.not_lt_zero _)⟩
theorem Half.passed {E : Nat → List Nat} {m0 m : List Bool} {u : Nat} {ch : Bool} (h : Half E m0 m u 0 ch) (hu : m[u]? = some false) : Half E m0 m (u + 1) 0 ch := by
  rcases h with ⟨h1, rfl, h2, h3⟩ | h
  · refine .inl ⟨h1, rfl, fun u' hlt hm => ?_, fun _ _ hj => absurd hj (Nat.not_lt_zero _)⟩
    by_cases e : u' = u
    · subst e; rw [hm] at hu; cases hu
    · exact h2 u' (by omega) hm
  · exact .inr h
theorem Half.onward {E : Nat → List Nat} {m0 m : List Bool} {u : Nat} {ch : Bool} (h : Half E m0 m u (E u).length ch) : Half E m0 m (u + 1) 0 ch := by
  rcases h with ⟨h1, rfl, h2, h3⟩ | h
  · refine .inl ⟨h1, rfl, fun u' hlt hm v hv => ?_, fun _ _ hj => absurd hj (Nat.not_lt_zero _)⟩
    by_cases e : u' = u
    · subst e
      obtain ⟨j, hj, hjv⟩ := List.mem_iff_getElem.1 hv
      exact h3 j v hj (by rw [List.getElem?_eq_getElem hj, hjv]) hm
    · exact h2 u' (by omega) hm v hv
  · exact .inr h
theorem Half.seen {E : Nat → List Nat} {m0 m : List Bool} {u j v : Nat} {ch : Bool} (h : Half E m0 m u j ch) (hv : (E u)[j]? = some v) (hm : m[v]? = some true) : Half E m0 m u (j + 1) ch := by
  rcases h with ⟨h1, rfl, h2, h3⟩ | h
  · refine .inl ⟨h1, rfl, h2, fun j' v' hj hv' hu => ?_⟩
    by_cases e : j' = j
    · subst e; rw [hv] at hv'; cases hv'; exact hm
    · exact h3 j' v' (by omega) hv' hu
  · exact .inr h
theorem Half.set {E : Nat → List Nat} {m0 m : List Bool} {u j v : Nat} {ch : Bool} (h : Half E m0 m u j ch) (hm : m[v]? = some false) : Half E m0 (m.set v true) u (j + 1) true := by
  refine .inr ⟨rfl, ?_⟩
  rw [marked_set hm]
  rcases h with ⟨h1, rfl, _⟩ | ⟨_, h⟩ <;> omega
theorem Half.closed {E : Nat → List Nat} {s n : Nat} {m0 m : List Bool} (h : Half E m0 m n 0 false) (hr : Rds E s n m) : Marks E s n m := by
  rcases h with ⟨_, rfl, h2, _⟩ | ⟨h, _⟩
  · refine ⟨hr.len, hr.start, fun u hu v hv => ?_, hr.rm⟩
    rcases Nat.lt_or_ge u n with h | h
    · exact h2 u h hu v hv
    · rw [List.getElem?_eq_none (by rw [hr.len]; exact h)] at hu; cases hu
  · cases h
theorem Half.more {E : Nat → List Nat} {m0 m : List Bool} {u j : Nat} (h : Half E m0 m u j true) : marked m0 < marked m := by
  rcases h with ⟨h, _⟩ | ⟨_, h⟩
  · cases h
  · exact h
end Go.Proofs.YbulkblmiFmt
