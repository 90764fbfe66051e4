/-
  What the law wants, plainly.
-/
import Derived.Test.YbulkblmiFmtBuild
namespace Go.Proofs.YbulkblmiFmt
open Go.RowKit

def oneItem (n p0 : Nat) (j : Nat) (it : Item) : Lk × Bool := (lookOf (it.knd % 6) (it.tgt % n) ((p0 + j + 1 : Nat) : Int), it.em)
/-- A rule's items as the walk meets them: p0 items lie ahead of the rule. -/
def itemsX (n p0 : Nat) (its : List Item) : List (Lk × Bool) := its.mapIdx (oneItem n p0)
theorem itemsX_len (n p0 : Nat) (its : List Item) : (itemsX n p0 its).length = its.length := by simp [itemsX]
theorem itemsX_get {n p0 j : Nat} {its : List Item} {it : Item} (h : its[j]? = some it) : (itemsX n p0 its)[j]? = some (oneItem n p0 j it) := by simp [itemsX, h]
/-- How many items the first k rules have. -/
def cnt (D : Nat → RuleD) : Nat → Nat
  | 0 => 0
  | k + 1 => cnt D k + (D k).items.length
def sumTo (D : Nat → RuleD) : Nat → Nat
  | 0 => 0
  | k + 1 => sumTo D k + ((D k).items.length + (D k).edges.length)
theorem cnt_le (D : Nat → RuleD) (k : Nat) : cnt D k ≤ sumTo D k := by
  induction k with
  | zero => exact Nat.le_refl _
  | succ k ih => simp only [cnt, sumTo]; omega
theorem sumTo_mono (D : Nat → RuleD) {a b : Nat} (h : a ≤ b) : sumTo D a ≤ sumTo D b := by
  induction b with
  | zero => obtain rfl : a = 0 := by omega
            exact Nat.le_refl _
  | succ b ih =>
    rcases Nat.lt_or_ge b a with h1 | h1
    · obtain rfl : a = b + 1 := by omega
      exact Nat.le_refl _
    · have := ih h1
      simp only [sumTo]; omega
theorem cnt_mono (D : Nat → RuleD) {a b : Nat} (h : a ≤ b) : cnt D a ≤ cnt D b := by
  induction b with
  | zero => obtain rfl : a = 0 := by omega
            exact Nat.le_refl _
  | succ b ih =>
    rcases Nat.lt_or_ge b a with h1 | h1
    · obtain rfl : a = b + 1 := by omega
      exact Nat.le_refl _
    · have := ih h1
      simp only [cnt]; omega
/-- The rules as the walk meets them. -/
def BdOf (n : Nat) (D : Nat → RuleD) (i : Nat) : Bool × List (Lk × Bool) := ((D i).ch, itemsX n (cnt D i) (D i).items)
theorem total_cnt (n : Nat) (D : Nat → RuleD) (k : Nat) : total (BdOf n D) k = cnt D k := by
  induction k with
  | zero => rfl
  | succ k ih => simp only [total, cnt, ih, BdOf, itemsX_len]
theorem ok_look (k t : Nat) (p : Int) (n : Nat) (ht : t < n) : okL n (lookOf k t p) := by
  unfold lookOf
  split
  · intro t' h; cases h; exact ht
  · split
    · intro t' h; cases h
    · split
      · intro t' h; cases h; exact ht
      · trivial
theorem ok_items {n p0 : Nat} {its : List Item} (hn : 0 < n) : ∀ oe ∈ itemsX n p0 its, okL n oe.1 := by
  intro oe h
  obtain ⟨j, hj⟩ := List.mem_iff_getElem?.1 h
  simp only [itemsX, List.getElem?_mapIdx] at hj
  cases h2 : its[j]? with
  | none => rw [h2] at hj; simp at hj
  | some it =>
    rw [h2] at hj
    simp at hj
    subst hj
    exact ok_look _ _ _ _ (Nat.mod_lt _ hn)

/-- Whether the first j items have stopped the sequence. -/
def stopped (ch : Bool) (its : List (Lk × Bool)) (j : Nat) : Bool := !ch && (its.take j).any fun x => !x.2
theorem take_next {α : Type} {l : List α} {j : Nat} {x : α} (h : l[j]? = some x) : l.take (j + 1) = l.take j ++ [x] := by
  rw [List.take_add_one, h]; rfl
theorem stopped_next {ch : Bool} {its : List (Lk × Bool)} {j : Nat} {oe : Lk × Bool} (h : its[j]? = some oe) : stopped ch its (j + 1) = (stopped ch its j || (!ch && !oe.2)) := by
  unfold stopped
  rw [take_next h, List.any_append]
  cases ch <;> simp
theorem upto_stop : ∀ (l : List (Lk × Bool)) (x : Lk × Bool), (l.any fun x => !x.2) = true → upto (l ++ [x]) = upto l
  | [], x, h => by simp at h
  | (o, e) :: r, x, h => by
    cases e with
    | false => simp [upto]
    | true =>
      simp only [List.cons_append, upto, if_true]
      rw [upto_stop r x (by simpa using h)]
theorem upto_on : ∀ (l : List (Lk × Bool)) (x : Lk × Bool), (l.any fun x => !x.2) = false → upto (l ++ [x]) = upto l ++ [x.1]
  | [], (o, e), h => by simp [upto]
  | (o, e) :: r, x, h => by
    cases e with
    | false => simp at h
    | true =>
      simp only [List.cons_append, upto, if_true]
      rw [upto_on r x (by simpa using h)]
theorem walked_stop {ch : Bool} {its : List (Lk × Bool)} {j : Nat} {oe : Lk × Bool} (h : its[j]? = some oe) (hs : stopped ch its j = true) : walked ch (its.take (j + 1)) = walked ch (its.take j) := by
  unfold stopped at hs
  simp only [Bool.and_eq_true, Bool.not_eq_true'] at hs
  obtain ⟨rfl, hs⟩ := hs
  rw [take_next h]
  simp only [walked, Bool.false_eq_true, if_false]
  exact upto_stop _ _ hs
theorem walked_on {ch : Bool} {its : List (Lk × Bool)} {j : Nat} {oe : Lk × Bool} (h : its[j]? = some oe) (hs : stopped ch its j = false) : walked ch (its.take (j + 1)) = walked ch (its.take j) ++ [oe.1] := by
  rw [take_next h]
  cases ch with
  | true => simp [walked]
  | false =>
    simp only [walked, Bool.false_eq_true, if_false]
    refine upto_on _ _ ?_
    simpa [stopped] using hs
/-- What is wanted behind j items of rule i. -/
def wantTo (R : Nat → Nat → Bool) (n : Nat) (D : Nat → RuleD) (i j : Nat) : List Int := allOuts R (BdOf n D) i ++ (walked (D i).ch ((itemsX n (cnt D i) (D i).items).take j)).flatMap (outOf R i)
theorem wantTo_zero (R : Nat → Nat → Bool) (n : Nat) (D : Nat → RuleD) (i : Nat) : wantTo R n D i 0 = allOuts R (BdOf n D) i := by
  unfold wantTo
  cases h : (D i).ch <;> simp [walked, upto]
theorem wantTo_all (R : Nat → Nat → Bool) (n : Nat) (D : Nat → RuleD) (i : Nat) : wantTo R n D i (D i).items.length = allOuts R (BdOf n D) (i + 1) := by
  unfold wantTo
  rw [allOuts_succ, List.take_of_length_le (by rw [itemsX_len]; exact Nat.le_refl _)]
  rfl
theorem wantTo_stop {R : Nat → Nat → Bool} {n : Nat} {D : Nat → RuleD} {i j : Nat} {it : Item} (h : (D i).items[j]? = some it) (hs : stopped (D i).ch (itemsX n (cnt D i) (D i).items) j = true) : wantTo R n D i (j + 1) = wantTo R n D i j := by
  unfold wantTo
  rw [walked_stop (itemsX_get h) hs]
theorem wantTo_on {R : Nat → Nat → Bool} {n : Nat} {D : Nat → RuleD} {i j : Nat} {it : Item} (h : (D i).items[j]? = some it) (hs : stopped (D i).ch (itemsX n (cnt D i) (D i).items) j = false) :
    wantTo R n D i (j + 1) = wantTo R n D i j ++ outOf R i (lookOf (it.knd % 6) (it.tgt % n) ((cnt D i + j + 1 : Nat) : Int)) := by
  unfold wantTo
  rw [walked_on (itemsX_get h) hs]
  simp [oneItem]
theorem wantTo_len (R : Nat → Nat → Bool) (n : Nat) (D : Nat → RuleD) (i j : Nat) : (wantTo R n D i j).length ≤ cnt D i + (D i).items.length := by
  have h1 := allOuts_len R (BdOf n D) i
  rw [total_cnt] at h1
  have h2 := outs_len R i (walked (D i).ch ((itemsX n (cnt D i) (D i).items).take j))
  have h3 := walked_len (D i).ch ((itemsX n (cnt D i) (D i).items).take j)
  rw [List.length_take, itemsX_len] at h3
  simp only [wantTo, List.length_append]
  omega
end Go.Proofs.YbulkblmiFmt
