/-
  THE PLAIN LAW: a linear probe. No Go in sight.
-/
import Derived.Test.YbulkblkeIn
namespace Go.Proofs.Ybulkblke

/-- A linear probe from place s over the slots S (n of them), at most so many steps: the slot, the place found (0: none), the places that were tested. -/
def probe (S : List (Int × Int)) (n : Nat) (tag : Int) (A : List Int) : Nat → Nat → Nat × Int × List Int
  | 0, _ => (0, 0, [])
  | f + 1, s =>
    if (S.getD s (0, 0)).2 = 0 then (s, 0, [])
    else if (S.getD s (0, 0)).1 = tag then
      (if isIn A (S.getD s (0, 0)).2 = true then (s, (S.getD s (0, 0)).2, [(S.getD s (0, 0)).2])
       else ((probe S n tag A f ((s + 1) % n)).1, (probe S n tag A f ((s + 1) % n)).2.1, (S.getD s (0, 0)).2 :: (probe S n tag A f ((s + 1) % n)).2.2))
    else probe S n tag A f ((s + 1) % n)

/-- What is left to do: from place s with f steps left and the log lg so far the probe comes to R; and a free slot lies within reach. -/
structure Left (S : List (Int × Int)) (n : Nat) (tag : Int) (A : List Int) (R : Nat × Int × List Int) (f s : Nat) (lg : List Int) : Prop where
  one : (probe S n tag A f s).1 = R.1
  two : (probe S n tag A f s).2.1 = R.2.1
  three : lg ++ (probe S n tag A f s).2.2 = R.2.2
  lt : s < n
  free : ∃ j, j < f ∧ (S.getD ((s + j) % n) (0, 0)).2 = 0

theorem Left.start {S : List (Int × Int)} {n : Nat} {tag : Int} {A : List Int} {s : Nat} (hs : s < n) (hf : ∃ i, i < n ∧ (S.getD i (0, 0)).2 = 0) : Left S n tag A (probe S n tag A n s) n s [] := by
  refine ⟨rfl, rfl, rfl, hs, ?_⟩
  obtain ⟨i, hi, h0⟩ := hf
  refine ⟨(i + n - s) % n, Nat.mod_lt _ (by omega), ?_⟩
  have e : (s + (i + n - s) % n) % n = i := by
    rw [Nat.add_mod, Nat.mod_mod, ← Nat.add_mod, show s + (i + n - s) = i + n by omega, Nat.add_mod_right, Nat.mod_eq_of_lt hi]
  rw [e]; exact h0

theorem Left.pos {S : List (Int × Int)} {n : Nat} {tag : Int} {A : List Int} {R : Nat × Int × List Int} {f s : Nat} {lg : List Int} (h : Left S n tag A R f s lg) : ∃ f', f = f' + 1 := by
  obtain ⟨j, hj, _⟩ := h.free
  exact ⟨f - 1, by omega⟩

theorem Left.atFree {S : List (Int × Int)} {n : Nat} {tag : Int} {A : List Int} {R : Nat × Int × List Int} {f s : Nat} {lg : List Int} (h : Left S n tag A R (f + 1) s lg) (h0 : (S.getD s (0, 0)).2 = 0) : R = (s, 0, lg) := by
  obtain ⟨h1, h2, h3, _, _⟩ := h
  have e : probe S n tag A (f + 1) s = (s, 0, []) := by simp only [probe, h0, if_true]
  rw [e] at h1 h2 h3
  obtain ⟨r1, r2, r3⟩ := R
  simp at h1 h2 h3
  subst h1 h2 h3
  rfl

theorem Left.atHit {S : List (Int × Int)} {n : Nat} {tag : Int} {A : List Int} {R : Nat × Int × List Int} {f s : Nat} {lg : List Int} (h : Left S n tag A R (f + 1) s lg) (h0 : ¬ (S.getD s (0, 0)).2 = 0)
    (ht : (S.getD s (0, 0)).1 = tag) (hi : isIn A (S.getD s (0, 0)).2 = true) : R = (s, (S.getD s (0, 0)).2, lg ++ [(S.getD s (0, 0)).2]) := by
  obtain ⟨h1, h2, h3, _, _⟩ := h
  have e : probe S n tag A (f + 1) s = (s, (S.getD s (0, 0)).2, [(S.getD s (0, 0)).2]) := by
    simp only [probe]
    rw [if_neg h0, if_pos ht, if_pos hi]
  rw [e] at h1 h2 h3
  obtain ⟨r1, r2, r3⟩ := R
  simp only at h1 h2 h3
  subst h1 h2 h3
  rfl

theorem Left.next {S : List (Int × Int)} {n : Nat} {f s : Nat} (hn : s < n) (h0 : ¬ (S.getD s (0, 0)).2 = 0) (hf : ∃ j, j < f + 1 ∧ (S.getD ((s + j) % n) (0, 0)).2 = 0) :
    ∃ j, j < f ∧ (S.getD (((s + 1) % n + j) % n) (0, 0)).2 = 0 := by
  obtain ⟨j, hj, hz⟩ := hf
  have hj0 : j ≠ 0 := by
    intro e
    subst e
    rw [Nat.add_zero, Nat.mod_eq_of_lt hn] at hz
    exact h0 hz
  refine ⟨j - 1, by omega, ?_⟩
  rw [Nat.add_mod, Nat.mod_mod, ← Nat.add_mod, show s + 1 + (j - 1) = s + j by omega]
  exact hz

theorem Left.atMiss {S : List (Int × Int)} {n : Nat} {tag : Int} {A : List Int} {R : Nat × Int × List Int} {f s : Nat} {lg : List Int} (h : Left S n tag A R (f + 1) s lg) (h0 : ¬ (S.getD s (0, 0)).2 = 0)
    (ht : (S.getD s (0, 0)).1 = tag) (hi : isIn A (S.getD s (0, 0)).2 = false) : Left S n tag A R f ((s + 1) % n) (lg ++ [(S.getD s (0, 0)).2]) := by
  obtain ⟨h1, h2, h3, h4, h5⟩ := h
  have e : probe S n tag A (f + 1) s = ((probe S n tag A f ((s + 1) % n)).1, (probe S n tag A f ((s + 1) % n)).2.1, (S.getD s (0, 0)).2 :: (probe S n tag A f ((s + 1) % n)).2.2) := by
    simp only [probe]
    rw [if_neg h0, if_pos ht, if_neg (by rw [hi]; decide)]
  rw [e] at h1 h2 h3
  exact ⟨h1, h2, by rw [← h3]; simp, Nat.mod_lt _ (by omega), Left.next h4 h0 h5⟩

theorem Left.atOther {S : List (Int × Int)} {n : Nat} {tag : Int} {A : List Int} {R : Nat × Int × List Int} {f s : Nat} {lg : List Int} (h : Left S n tag A R (f + 1) s lg) (h0 : ¬ (S.getD s (0, 0)).2 = 0)
    (ht : ¬ (S.getD s (0, 0)).1 = tag) : Left S n tag A R f ((s + 1) % n) lg := by
  obtain ⟨h1, h2, h3, h4, h5⟩ := h
  have e : probe S n tag A (f + 1) s = probe S n tag A f ((s + 1) % n) := by
    simp only [probe]
    rw [if_neg h0, if_neg ht]
  rw [e] at h1 h2 h3
  exact ⟨h1, h2, h3, Nat.mod_lt _ (by omega), Left.next h4 h0 h5⟩

end Go.Proofs.Ybulkblke
