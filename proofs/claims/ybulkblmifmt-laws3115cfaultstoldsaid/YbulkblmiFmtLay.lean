/-
  What the law builds, as it lies: the rules, the calls, a rule's items, the memo.
-/
import Derived.Test.YbulkblmiFmtWant
namespace Go.Proofs.YbulkblmiFmt
open Go.RowKit

theorem info39 : (Ybaf.prog.info? 39).map (fun i => (i.zero, i.size, i.bytes)) = some (some (.agg #[.string ⟨#[]⟩, .int .i64 0, .pointer none, .int .i64 0, .slice none 0 0]), 5, 64) := by kernel_rfl
theorem info32 : (Ybaf.prog.info? 32).map (fun i => (i.zero, i.size, i.bytes)) = some (some (.pointer none), 1, 8) := by kernel_rfl
theorem info42 : (Ybaf.prog.info? 42).map (fun i => (i.zero, i.size, i.bytes)) = some (some (.slice none 0 0), 1, 24) := by kernel_rfl

abbrev ptr (b : Nat) : Value := .pointer (some ⟨b, 0, none⟩)

theorem row_blk {w : World} {B g n k size : Nat} {e : TypeId} {xs : List Value} (h : w.ownsRow B e size (.slice (some ⟨g, 0, none⟩) n k) n xs) : ∃ cs, Blk w g cs e := by
  obtain ⟨hl, (⟨h, _⟩ | ⟨g', cap', cur, hv, hg, hgb, _⟩)⟩ := h
  · cases h
  · cases hv
    exact ⟨cur, hgb⟩
theorem blk_type {w : World} {k : Nat} {cs cs' : Array Value} {t t' : TypeId} (h : Blk w k cs t) (h' : Blk w k cs' t') : t = t' := by
  have := (show w.heap[k]? = _ from h).symm.trans h'
  simp at this
  exact this.2

/-- One rule, as it lies. -/
def RuleX (cs : Array Value) (k bd : Nat) : Prop := cs[5 * k]? = some strR ∧ cs[5 * k + 1]? = some (.int .i64 0) ∧ cs[5 * k + 2]? = some (ptr bd) ∧ cs[5 * k + 3]? = some (.int .i64 (-1)) ∧ cs[5 * k + 4]? = some (.slice none 0 0)
/-- The rules so far. -/
def RB (w : World) (rb n i : Nat) (Bd : Nat → Bool × List (Lk × Bool)) : Prop := ∃ cs, Blk w rb cs 39 ∧ cs.size = n * 5 ∧ ∀ k, k < i → ∃ bd, RuleX cs k bd ∧ BodyX w w.heap.size bd (Bd k).1 (Bd k).2

section
variable {w w' : World} {rb n i : Nat} {Bd : Nat → Bool × List (Lk × Bool)}
theorem RB.start {B : Nat} {xs : List Value} (h : w.ownsRow B 39 5 (.slice (some ⟨rb, 0, none⟩) n n) n xs) : RB w rb n 0 Bd := ⟨_, row_full h, by have := h.1; simpa using this, fun k hk => absurd hk (Nat.not_lt_zero _)⟩
theorem RB.lt (h : RB w rb n i Bd) : rb < w.heap.size := by obtain ⟨cs, hb, _⟩ := h; exact hb.lt
theorem RB.frozen (h : RB w rb n i Bd) (j : Nat) : w.frozen? ⟨rb, j, none⟩ = false := by obtain ⟨cs, hb, _⟩ := h; exact hb.frozen j
theorem RB.there (h : RB w rb n i Bd) {j : Nat} (hj : j < n * 5) : ∃ v, w.cell? ⟨rb, j, none⟩ = some v := by
  obtain ⟨cs, hb, hs, _⟩ := h
  exact ⟨_, hb.cell j (Array.getElem?_eq_getElem (by omega))⟩
theorem RB.keep {T : Nat → Prop} (h : RB w rb n i Bd) (ht : Turns w w' T) (hT : ∀ k cs t, T k → Blk w k cs t → t ≠ 37 ∧ t ≠ 32 ∧ t ≠ 39) : RB w' rb n i Bd := by
  obtain ⟨cs, hb, hs, hk⟩ := h
  refine ⟨cs, hb.turns ht (fun hk => (hT _ _ _ hk hb).2.2 rfl), hs, fun k hki => ?_⟩
  obtain ⟨bd, h1, h2⟩ := hk k hki
  exact ⟨bd, h1, (BodyX.keep ht (fun k cs t a b => (hT k cs t a b).1) (fun k cs t a b => (hT k cs t a b).2.1) h2).mono ht.size⟩
theorem RB.below (h : RB w rb n i Bd) (hb : Below w.heap.size w w') : RB w' rb n i Bd := h.keep (Turns.of_below hb (fun _ => False)) (fun _ _ _ h => h.elim)

theorem RuleX.other {cs : Array Value} {k j bd : Nat} {v : Value} (h : RuleX cs k bd) (hj : j < 5 * k ∨ 5 * k + 4 < j) : RuleX (cs.setIfInBounds j v) k bd := by
  obtain ⟨a, b, c, d, e⟩ := h
  refine ⟨?_, ?_, ?_, ?_, ?_⟩
  all_goals
    rw [Array.getElem?_setIfInBounds_ne (by omega)]
    assumption

theorem RB.step {bd : Nat} (h : RB w rb n i Bd) (hi : i < n) (hbd : BodyX w w.heap.size bd (Bd i).1 (Bd i).2) :
    RB (((((w.setCell ⟨rb, i * 5, none⟩ strR).setCell ⟨rb, i * 5 + 1, none⟩ (.int .i64 0)).setCell ⟨rb, i * 5 + 2, none⟩ (ptr bd)).setCell ⟨rb, i * 5 + 3, none⟩ (.int .i64 (-1))).setCell ⟨rb, i * 5 + 4, none⟩ (.slice none 0 0)) rb n (i + 1) Bd := by
  obtain ⟨cs, hb, hs, hk⟩ := h
  have hT : Turns w (((((w.setCell ⟨rb, i * 5, none⟩ strR).setCell ⟨rb, i * 5 + 1, none⟩ (.int .i64 0)).setCell ⟨rb, i * 5 + 2, none⟩ (ptr bd)).setCell ⟨rb, i * 5 + 3, none⟩ (.int .i64 (-1))).setCell ⟨rb, i * 5 + 4, none⟩ (.slice none 0 0)) (fun k => k = rb) :=
    (((((Turns.refl w (fun k => k = rb)).setCell (p := ⟨rb, i * 5, none⟩) (.inl rfl) _).setCell (p := ⟨rb, i * 5 + 1, none⟩) (.inl rfl) _).setCell (p := ⟨rb, i * 5 + 2, none⟩) (.inl rfl) _).setCell (p := ⟨rb, i * 5 + 3, none⟩) (.inl rfl) _).setCell (p := ⟨rb, i * 5 + 4, none⟩) (.inl rfl) _
  have hTT : ∀ (k : Nat) (cs : Array Value) (t : TypeId), k = rb → Blk w k cs t → t ≠ 37 ∧ t ≠ 32 := by
    intro k cs' t e hb'
    subst e
    rw [blk_type hb' hb]
    exact ⟨by decide, by decide⟩
  refine ⟨_, ((((hb.set _ _).set _ _).set _ _).set _ _).set _ _, by simp [hs], fun k hki => ?_⟩
  by_cases e : k = i
  · subst e
    refine ⟨bd, ⟨?_, ?_, ?_, ?_, ?_⟩, (BodyX.keep hT (fun k cs t a b => (hTT k cs t a b).1) (fun k cs t a b => (hTT k cs t a b).2) hbd).mono hT.size⟩
    · rw [Nat.mul_comm 5 k, Array.getElem?_setIfInBounds_ne (by omega), Array.getElem?_setIfInBounds_ne (by omega), Array.getElem?_setIfInBounds_ne (by omega), Array.getElem?_setIfInBounds_ne (by omega), Array.getElem?_setIfInBounds_self_of_lt (by omega)]
    · rw [Nat.mul_comm 5 k, Array.getElem?_setIfInBounds_ne (by omega), Array.getElem?_setIfInBounds_ne (by omega), Array.getElem?_setIfInBounds_ne (by omega), Array.getElem?_setIfInBounds_self_of_lt (by simp; omega)]
    · rw [Nat.mul_comm 5 k, Array.getElem?_setIfInBounds_ne (by omega), Array.getElem?_setIfInBounds_ne (by omega), Array.getElem?_setIfInBounds_self_of_lt (by simp; omega)]
    · rw [Nat.mul_comm 5 k, Array.getElem?_setIfInBounds_ne (by omega), Array.getElem?_setIfInBounds_self_of_lt (by simp; omega)]
    · rw [Nat.mul_comm 5 k, Array.getElem?_setIfInBounds_self_of_lt (by simp; omega)]
  · obtain ⟨bd', h1, h2⟩ := hk k (by omega)
    exact ⟨bd', ((((h1.other (by omega)).other (by omega)).other (by omega)).other (by omega)).other (by omega), (BodyX.keep hT (fun k cs t a b => (hTT k cs t a b).1) (fun k cs t a b => (hTT k cs t a b).2) h2).mono hT.size⟩

theorem RB.rules (h : RB w rb n n Bd) : RulesX w rb n w.heap.size Bd := by
  obtain ⟨cs, hb, hs, hk⟩ := h
  intro i hi
  obtain ⟨bd, ⟨a, b, c, d, e⟩, h2⟩ := hk i hi
  exact ⟨bd, hb.cell _ a, hb.cell _ b, hb.cell _ c, hb.cell _ d, hb.cell _ e, h2⟩
end

/-- The calls so far. -/
def CB (w : World) (cb n i : Nat) (E : Nat → List Nat) : Prop := ∃ cs, Blk w cb cs 40 ∧ cs.size = n ∧ ∀ u, u < i → ∃ g cap B, cs[u]? = some (.slice (some ⟨g, 0, none⟩) (E u).length cap) ∧ w.ownsRow B 3 1 (.slice (some ⟨g, 0, none⟩) (E u).length cap) (E u).length (ints (E u))

section
variable {w w' : World} {cb n i : Nat} {E : Nat → List Nat}
theorem CB.start {B : Nat} {xs : List Value} (h : w.ownsRow B 40 1 (.slice (some ⟨cb, 0, none⟩) n n) n xs) : CB w cb n 0 E := ⟨_, row_full h, by have := h.1; simpa using this, fun k hk => absurd hk (Nat.not_lt_zero _)⟩
theorem CB.lt (h : CB w cb n i E) : cb < w.heap.size := by obtain ⟨cs, hb, _⟩ := h; exact hb.lt
theorem CB.frozen (h : CB w cb n i E) (j : Nat) : w.frozen? ⟨cb, j, none⟩ = false := by obtain ⟨cs, hb, _⟩ := h; exact hb.frozen j
theorem CB.there (h : CB w cb n i E) {j : Nat} (hj : j < n) : ∃ v, w.cell? ⟨cb, j, none⟩ = some v := by
  obtain ⟨cs, hb, hs, _⟩ := h
  exact ⟨_, hb.cell j (Array.getElem?_eq_getElem (by omega))⟩
theorem row_keep {B m g cap size : Nat} {e : TypeId} {xs : List Value} {T : Nat → Prop} (h : w.ownsRow B e size (.slice (some ⟨g, 0, none⟩) m cap) m xs) (ht : Turns w w' T) (hT : ∀ k cs t, T k → Blk w k cs t → t ≠ e) : w'.ownsRow B e size (.slice (some ⟨g, 0, none⟩) m cap) m xs := by
  refine row_turns h ht (fun k hk hTk => ?_)
  obtain ⟨cs, hb⟩ := row_blk h
  simp [Value.ownBlock] at hk
  subst hk
  exact hT _ _ _ hTk hb rfl
theorem CB.keep {T : Nat → Prop} (h : CB w cb n i E) (ht : Turns w w' T) (hT : ∀ k cs t, T k → Blk w k cs t → t ≠ 40 ∧ t ≠ 3) : CB w' cb n i E := by
  obtain ⟨cs, hb, hs, hk⟩ := h
  refine ⟨cs, hb.turns ht (fun hk => (hT _ _ _ hk hb).1 rfl), hs, fun k hki => ?_⟩
  obtain ⟨g, cap, B, h1, h2⟩ := hk k hki
  exact ⟨g, cap, B, h1, row_keep h2 ht (fun k cs t a b => (hT k cs t a b).2)⟩
theorem CB.below (h : CB w cb n i E) (hb : Below w.heap.size w w') : CB w' cb n i E := h.keep (Turns.of_below hb (fun _ => False)) (fun _ _ _ h => h.elim)
theorem CB.step {g cap B : Nat} (h : CB w cb n i E) (hi : i < n) (hr : w.ownsRow B 3 1 (.slice (some ⟨g, 0, none⟩) (E i).length cap) (E i).length (ints (E i))) : CB (w.setCell ⟨cb, i, none⟩ (.slice (some ⟨g, 0, none⟩) (E i).length cap)) cb n (i + 1) E := by
  obtain ⟨cs, hb, hs, hk⟩ := h
  have hT : Turns w (w.setCell ⟨cb, i, none⟩ (.slice (some ⟨g, 0, none⟩) (E i).length cap)) (fun k => k = cb) := (Turns.refl w (fun k => k = cb)).setCell (p := ⟨cb, i, none⟩) (.inl rfl) _
  have hTT : ∀ (k : Nat) (cs : Array Value) (t : TypeId), k = cb → Blk w k cs t → t ≠ 3 := by
    intro k cs' t e hb'
    subst e
    rw [blk_type hb' hb]
    decide
  refine ⟨_, hb.set _ _, by simp [hs], fun k hki => ?_⟩
  by_cases e : k = i
  · subst e
    exact ⟨g, cap, B, by rw [Array.getElem?_setIfInBounds_self_of_lt (by omega)], row_keep hr hT hTT⟩
  · obtain ⟨g', cap', B', h1, h2⟩ := hk k (by omega)
    exact ⟨g', cap', B', by rw [Array.getElem?_setIfInBounds_ne (by omega)]; exact h1, row_keep h2 hT hTT⟩
theorem CB.graph (h : CB w cb n n E) : Graph w cb n E := by
  obtain ⟨cs, hb, hs, hk⟩ := h
  intro u hu
  obtain ⟨g, cap, B, h1, h2⟩ := hk u hu
  exact ⟨g, cap, B, hb.cell u h1, h2⟩
end

/-- The items of a rule so far: their row and their expressions. -/
def SB (w : World) (B n p0 : Nat) (its : List Item) (j : Nat) (v : Value) : Prop := ∃ (bs : List Nat) (g cap : Nat), v = .slice (some ⟨g, 0, none⟩) j cap ∧ bs.length = j ∧ w.ownsRow B 32 1 v j (bs.map ptr) ∧ ∀ (x : Nat) b it, bs[x]? = some b → its[x]? = some it → ItemX w w.heap.size b (oneItem n p0 x it).1 it.em

section
variable {w w' : World} {B n p0 j : Nat} {its : List Item} {v : Value}
theorem SB.start {g cap : Nat} (h : w.ownsRow B 32 1 (.slice (some ⟨g, 0, none⟩) 0 cap) 0 []) : SB w B n p0 its 0 (.slice (some ⟨g, 0, none⟩) 0 cap) := ⟨[], g, cap, rfl, rfl, h, fun x b it hb => by simp at hb⟩
/-- One item more. -/
theorem SB.onward {w1 w2 : World} {it : Item} {bs : List Nat} {b g cap g' cap' : Nat} (hbl : bs.length = j) (hits : ∀ (x : Nat) b it, bs[x]? = some b → its[x]? = some it → ItemX w w.heap.size b (oneItem n p0 x it).1 it.em) (hit : its[j]? = some it)
    (h1 : Below w.heap.size w w1) (hx : ItemX w1 w1.heap.size b (oneItem n p0 j it).1 it.em) (hrow : w1.ownsRow B 32 1 (.slice (some ⟨g, 0, none⟩) j cap) j (bs.map ptr)) (ht : Turns w1 w2 (fun k => k = g))
    (hown : w2.ownsRow B 32 1 (.slice (some ⟨g', 0, none⟩) (j + 1) cap') (j + 1) (bs.map ptr ++ [ptr b])) : SB w2 B n p0 its (j + 1) (.slice (some ⟨g', 0, none⟩) (j + 1) cap') := by
  refine ⟨bs ++ [b], g', cap', rfl, by simp [hbl], by simpa using hown, fun x b' it' hb hi => ?_⟩
  have hTT : ∀ (k : Nat) (cs : Array Value) (t : TypeId), k = g → Blk w1 k cs t → t ≠ 37 := by
    intro k cs t e hb
    subst e
    obtain ⟨cs', hb'⟩ := row_blk hrow
    rw [blk_type hb hb']
    decide
  by_cases hxj : x < j
  · rw [List.getElem?_append_left (by omega)] at hb
    exact (ItemX.keep ht hTT (((hits x b' it' hb hi).below h1).mono h1.size)).mono ht.size
  · have hxj' : x = j := by
      rcases Nat.lt_or_ge j x with h | h
      · rw [List.getElem?_eq_none (by simp; omega)] at hb; cases hb
      · omega
    subst hxj'
    rw [List.getElem?_append_right (by omega)] at hb
    simp [hbl] at hb
    subst hb
    rw [hit] at hi
    cases hi
    exact (ItemX.keep ht hTT hx).mono ht.size

/-- The body over the items. -/
theorem SB.body {bd : Nat} {ch : Bool} {pos rule : Int} {sub : Value} {em : Bool} (h : SB w B n p0 its its.length v) (hw : Below w.heap.size w w') (he : EX w' bd (if ch = true then 0 else 1) pos v sub rule em) : BodyX w' w'.heap.size bd ch (itemsX n p0 its) := by
  obtain ⟨bs, g, cap, rfl, hbl, hown, hits⟩ := h
  obtain ⟨cs, hb⟩ := row_blk hown
  have hsz := hw.size
  refine ⟨he.lt, g, cap, pos, sub, rule, em, bs, by rw [itemsX_len]; exact he, ⟨by have := hb.lt; omega, cs, hb.below hw hb.lt⟩, by rw [itemsX_len]; exact hbl, fun j b oe hj ho => ?_⟩
  have hjl : j < its.length := by
    rcases Nat.lt_or_ge j its.length with h | h
    · exact h
    · rw [List.getElem?_eq_none (by omega)] at hj; cases hj
  obtain ⟨it, hit⟩ : ∃ it, its[j]? = some it := ⟨_, List.getElem?_eq_getElem hjl⟩
  rw [itemsX_get hit] at ho
  cases ho
  refine ⟨?_, ((hits j b it hj hit).below hw).mono hsz⟩
  rw [hw.cell (p := ⟨g, j, none⟩) hb.lt]
  exact row_cells hown j _ (by simp [hj])
end

/-- The memo: nothing yet, or what is reached. -/
def Memo (w : World) (mb n : Nat) (E : Nat → List Nat) : Prop := ∃ cs, Blk w mb cs 42 ∧ cs.size = n ∧ ∀ t, t < n → cs[t]? = some (.slice none 0 0) ∨ ∃ g m, cs[t]? = some (.slice (some ⟨g, 0, none⟩) n n) ∧ Blk w g (bools m) 4 ∧ Marks E t n m

section
variable {w w' : World} {mb n : Nat} {E : Nat → List Nat}
theorem Memo.start {B : Nat} (h : w.ownsRow B 42 1 (.slice (some ⟨mb, 0, none⟩) n n) n (madeCells #[Value.slice none 0 0] n).toList) : Memo w mb n E := by
  refine ⟨_, row_full h, by have := h.1; simpa using this, fun t ht => .inl ?_⟩
  rw [toList_madeCells_one]
  simp [ht]
theorem Memo.lt (h : Memo w mb n E) : mb < w.heap.size := by obtain ⟨cs, hb, _⟩ := h; exact hb.lt
theorem Memo.frozen (h : Memo w mb n E) (j : Nat) : w.frozen? ⟨mb, j, none⟩ = false := by obtain ⟨cs, hb, _⟩ := h; exact hb.frozen j
theorem Memo.get (h : Memo w mb n E) {t : Nat} (ht : t < n) : w.cell? ⟨mb, t, none⟩ = some (.slice none 0 0) ∨ ∃ g m, w.cell? ⟨mb, t, none⟩ = some (.slice (some ⟨g, 0, none⟩) n n) ∧ Blk w g (bools m) 4 ∧ Marks E t n m := by
  obtain ⟨cs, hb, _, hk⟩ := h
  rcases hk t ht with h | ⟨g, m, h1, h2, h3⟩
  · exact .inl (hb.cell t h)
  · exact .inr ⟨g, m, hb.cell t h1, h2, h3⟩
theorem Memo.keep {T : Nat → Prop} (h : Memo w mb n E) (ht : Turns w w' T) (hT : ∀ k cs t, T k → Blk w k cs t → t ≠ 42 ∧ t ≠ 4) : Memo w' mb n E := by
  obtain ⟨cs, hb, hs, hk⟩ := h
  refine ⟨cs, hb.turns ht (fun hk => (hT _ _ _ hk hb).1 rfl), hs, fun t htn => ?_⟩
  rcases hk t htn with h | ⟨g, m, h1, h2, h3⟩
  · exact .inl h
  · exact .inr ⟨g, m, h1, h2.turns ht (fun hk => (hT _ _ _ hk h2).2 rfl), h3⟩
theorem Memo.below (h : Memo w mb n E) (hb : Below w.heap.size w w') : Memo w' mb n E := h.keep (Turns.of_below hb (fun _ => False)) (fun _ _ _ h => h.elim)
theorem Memo.step {t g : Nat} {m : List Bool} (h : Memo w mb n E) (ht : t < n) (hg : Blk w g (bools m) 4) (hm : Marks E t n m) : Memo (w.setCell ⟨mb, t, none⟩ (.slice (some ⟨g, 0, none⟩) n n)) mb n E := by
  obtain ⟨cs, hb, hs, hk⟩ := h
  have hT : Turns w (w.setCell ⟨mb, t, none⟩ (.slice (some ⟨g, 0, none⟩) n n)) (fun k => k = mb) := (Turns.refl w (fun k => k = mb)).setCell (p := ⟨mb, t, none⟩) (.inl rfl) _
  have hne : ∀ {g : Nat} {m : List Bool}, Blk w g (bools m) 4 → ¬ g = mb := by
    intro g m hg e
    subst e
    have := blk_type hg hb
    exact absurd this (by decide)
  refine ⟨_, hb.set _ _, by simp [hs], fun k hkn => ?_⟩
  by_cases e : k = t
  · subst e
    exact .inr ⟨g, m, by rw [Array.getElem?_setIfInBounds_self_of_lt (by omega)], hg.turns hT (hne hg), hm⟩
  · rcases hk k hkn with h | ⟨g', m', h1, h2, h3⟩
    · exact .inl (by rw [Array.getElem?_setIfInBounds_ne (by omega)]; exact h)
    · exact .inr ⟨g', m', by rw [Array.getElem?_setIfInBounds_ne (by omega)]; exact h1, h2.turns hT (hne h2), h3⟩
end
end Go.Proofs.YbulkblmiFmt
