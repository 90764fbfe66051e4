/-
  Whole blocks, rows, and what turns from a world to the next.
-/
import Derived.Test.YbulkblmiFmtReach
import Derived.BigQuiet
import Derived.RegionTactic
import Derived.BigRegion
import Derived.Maps.AppendAt
import Derived.RangeFuncBox
namespace Go.Proofs.YbulkblmiFmt
open Go.RowKit

theorem heap_set_same {w : World} {b off : Nat} {cs : Array Value} {t : TypeId} {fz : Nat × Nat} (h : w.heap[b]? = some (.cells cs t fz)) (v : Value) : (w.setCell ⟨b, off, none⟩ v).heap[b]? = some (.cells (cs.setIfInBounds off v) t fz) := by
  obtain ⟨hlt, hk⟩ := Array.getElem?_eq_some_iff.1 h
  show (w.heap.modify b _)[b]? = _
  rw [Array.getElem?_eq_getElem (by rw [Array.size_modify]; exact hlt), Array.getElem_modify_self, hk]
  rfl

/-- From w to w' no block turns but those of T; new ones may come. -/
def Turns (w w' : World) (T : Nat → Prop) : Prop := w'.os = w.os ∧ w'.tape = w.tape ∧ w'.output = w.output ∧ w.heap.size ≤ w'.heap.size ∧ ∀ k, k < w.heap.size → ¬ T k → w'.heap[k]? = w.heap[k]?

theorem Turns.refl (w : World) (T : Nat → Prop) : Turns w w T := ⟨rfl, rfl, rfl, Nat.le_refl _, fun _ _ _ => rfl⟩
theorem Turns.mono {w w' : World} {T T' : Nat → Prop} (h : Turns w w' T) (ht : ∀ k, k < w.heap.size → T k → T' k) : Turns w w' T' :=
  ⟨h.1, h.2.1, h.2.2.1, h.2.2.2.1, fun k hk hn => h.2.2.2.2 k hk (fun hT => hn (ht k hk hT))⟩
theorem Turns.trans {a b c : World} {T : Nat → Prop} (h : Turns a b T) (k : Turns b c (fun i => T i ∨ a.heap.size ≤ i)) : Turns a c T :=
  ⟨k.1.trans h.1, k.2.1.trans h.2.1, k.2.2.1.trans h.2.2.1, Nat.le_trans h.2.2.2.1 k.2.2.2.1, fun i hi hn => (k.2.2.2.2 i (Nat.lt_of_lt_of_le hi h.2.2.2.1) (fun hT => hT.elim hn (fun hle => absurd hi (Nat.not_lt.2 hle)))).trans (h.2.2.2.2 i hi hn)⟩
theorem Turns.alloc {a w : World} {T : Nat → Prop} (h : Turns a w T) (o : Obj) : Turns a (w.alloc o) T :=
  h.trans ⟨rfl, rfl, rfl, by simp, fun k hk _ => Below.heap_alloc _ _ k hk⟩
theorem Turns.setCell {a w : World} {T : Nat → Prop} (h : Turns a w T) {p : Addr} (hp : T p.block ∨ a.heap.size ≤ p.block) (v : Value) : Turns a (w.setCell p v) T :=
  h.trans ⟨rfl, rfl, rfl, by simp [World.setCell], fun k _ hn => Below.heap_setCell _ _ _ k (fun e => hn (e ▸ hp))⟩
theorem Turns.drew {a w : World} {T : Nat → Prop} (h : Turns a w T) : Turns a w.drew T := h.trans ⟨rfl, rfl, rfl, Nat.le_refl _, fun _ _ _ => rfl⟩
theorem Turns.grown {a w w' : World} {T : Nat → Prop} {row : Option Nat} (h : Turns a w T) (hg : w.grownBy w' row) (hr : ∀ k, row = some k → T k ∨ a.heap.size ≤ k) : Turns a w' T :=
  h.trans ⟨hg.os, hg.tape, hg.output, hg.size, fun k hk hn => hg.block k hk (fun e => hn (hr k e.symm))⟩
theorem Turns.below {a w w' : World} {T : Nat → Prop} (h : Turns a w T) (hb : Below w.heap.size w w') : Turns a w' T :=
  h.trans ⟨hb.os, hb.tape, hb.output, hb.size, fun k hk _ => hb.block k hk⟩
theorem Turns.to_below {B : Nat} {w w' : World} {T : Nat → Prop} (h : Turns w w' T) (hB : B ≤ w.heap.size) (hT : ∀ k, T k → B ≤ k) : Below B w w' :=
  ⟨h.1, h.2.1, h.2.2.1, h.2.2.2.1, fun k hk => h.2.2.2.2 k (Nat.lt_of_lt_of_le hk hB) (fun ht => absurd hk (Nat.not_lt.2 (hT k ht)))⟩
theorem Turns.of_below {w w' : World} (hb : Below w.heap.size w w') (T : Nat → Prop) : Turns w w' T :=
  ⟨hb.os, hb.tape, hb.output, hb.size, fun k hk _ => hb.block k hk⟩
theorem Turns.cell {w w' : World} {T : Nat → Prop} (h : Turns w w' T) {p : Addr} (hp : p.block < w.heap.size) (hn : ¬ T p.block) : w'.cell? p = w.cell? p := World.cell?_of_block (h.2.2.2.2 _ hp hn)
theorem Turns.size {w w' : World} {T : Nat → Prop} (h : Turns w w' T) : w.heap.size ≤ w'.heap.size := h.2.2.2.1
theorem Turns.tape {w w' : World} {T : Nat → Prop} (h : Turns w w' T) : w'.tape = w.tape := h.2.1

/-- Block k holds the cells cs of type t. -/
def Blk (w : World) (k : Nat) (cs : Array Value) (t : TypeId) : Prop := w.heap[k]? = some (.cells cs t (0, 0))

section
variable {w : World} {k : Nat} {cs : Array Value} {t : TypeId}
theorem Blk.lt (h : Blk w k cs t) : k < w.heap.size := (Array.getElem?_eq_some_iff.1 h).1
theorem Blk.frozen (h : Blk w k cs t) (i : Nat) : w.frozen? ⟨k, i, none⟩ = false := by simp [World.frozen?, show w.heap[k]? = _ from h]
theorem Blk.cell (h : Blk w k cs t) (i : Nat) {v : Value} (hv : cs[i]? = some v) : w.cell? ⟨k, i, none⟩ = some v := by simp [World.cell?, show w.heap[k]? = _ from h, hv]
theorem Blk.set (h : Blk w k cs t) (i : Nat) (v : Value) : Blk (w.setCell ⟨k, i, none⟩ v) k (cs.setIfInBounds i v) t := heap_set_same h v
theorem Blk.other (h : Blk w k cs t) (a : Addr) (v : Value) (ha : k ≠ a.block) : Blk (w.setCell a v) k cs t := (Below.heap_setCell _ _ _ k ha).trans h
theorem Blk.alloc (h : Blk w k cs t) (o : Obj) : Blk (w.alloc o) k cs t := (Below.heap_alloc _ _ k h.lt).trans h
theorem Blk.drew (h : Blk w k cs t) : Blk w.drew k cs t := h
theorem Blk.new (w : World) (cs : Array Value) (t : TypeId) : Blk (w.alloc (.cells cs t)) w.heap.size cs t := World.alloc_heap_new w _
theorem Blk.turns (h : Blk w k cs t) {w' : World} {T : Nat → Prop} (ht : Turns w w' T) (hn : ¬ T k) : Blk w' k cs t := (ht.2.2.2.2 k h.lt hn).trans h
theorem Blk.below (h : Blk w k cs t) {w' : World} {B : Nat} (hb : Below B w w') (hk : k < B) : Blk w' k cs t := (hb.block k hk).trans h
end

theorem size_setCell (w : World) (a : Addr) (v : Value) : (w.setCell a v).heap.size = w.heap.size := by simp [World.setCell]

/-- A row that is not the block written. -/
theorem row_other {w : World} {B size n : Nat} {e : TypeId} {v : Value} {xs : List Value} (h : w.ownsRow B e size v n xs) (p : Addr) (hp : some p.block ≠ v.ownBlock) (u : Value) : (w.setCell p u).ownsRow B e size v n xs := by
  obtain ⟨hl, (⟨h, h2⟩ | ⟨g', cap', cur, hv, hg, hgb, hrest⟩)⟩ := h
  · exact ⟨hl, .inl ⟨h, h2⟩⟩
  · subst hv
    exact ⟨hl, .inr ⟨_, _, cur, rfl, hg, (Below.heap_setCell _ _ _ _ (fun e => hp (by simp [Value.ownBlock, e]))).trans hgb, hrest⟩⟩
theorem row_turns {w w' : World} {B size n : Nat} {e : TypeId} {v : Value} {xs : List Value} {T : Nat → Prop} (h : w.ownsRow B e size v n xs) (ht : Turns w w' T) (hn : ∀ k, v.ownBlock = some k → ¬ T k) : w'.ownsRow B e size v n xs := by
  obtain ⟨hl, (⟨h, h2⟩ | ⟨g', cap', cur, hv, hg, hgb, hrest⟩)⟩ := h
  · exact ⟨hl, .inl ⟨h, h2⟩⟩
  · subst hv
    exact ⟨hl, .inr ⟨_, _, cur, rfl, hg, (ht.2.2.2.2 _ (Array.getElem?_eq_some_iff.1 hgb).1 (hn _ rfl)).trans hgb, hrest⟩⟩
theorem ownBlock_lt {w : World} {base size n : Nat} {e : TypeId} {v : Value} {xs : List Value} (h : w.ownsRow base e size v n xs) : ∀ k, v.ownBlock = some k → k < w.heap.size := by
  intro k hk
  rcases h.2 with ⟨rfl, _⟩ | ⟨g, cap, cur, rfl, hb, hgb, _⟩
  · simp [Value.ownBlock] at hk
  · obtain rfl : g = k := by simpa [Value.ownBlock] using hk
    exact (Array.getElem?_eq_some_iff.1 hgb).1
theorem ownBlock_ge {w : World} {base size n : Nat} {e : TypeId} {v : Value} {xs : List Value} (h : w.ownsRow base e size v n xs) : ∀ k, v.ownBlock = some k → base ≤ k := by
  intro k hk
  rcases h.2 with ⟨rfl, _⟩ | ⟨g, cap, cur, rfl, hb, hgb, _⟩
  · simp [Value.ownBlock] at hk
  · obtain rfl : g = k := by simpa [Value.ownBlock] using hk
    exact hb
/-- A row's block is not a block of another type. -/
theorem row_block_ne {w : World} {base size n k : Nat} {e t : TypeId} {v : Value} {xs : List Value} {cs : Array Value} (hp : Blk w k cs t) (h : w.ownsRow base e size v n xs) (he : t ≠ e) : some k ≠ v.ownBlock := by
  intro hk
  obtain ⟨hl, (⟨rfl, _⟩ | ⟨g', cap', cur, rfl, hg, hgb, hrest⟩)⟩ := h
  · simp [Value.ownBlock] at hk
  · obtain rfl : k = g' := by simpa [Value.ownBlock] using hk
    have := (show w.heap[k]? = _ from hp).symm.trans hgb
    simp at this
    exact he this.2
theorem row_take {w : World} {B m mark nb cap : Nat} {e : TypeId} {xs : List Value} (h : w.ownsRow B e 1 (.slice (some ⟨nb, 0, none⟩) m cap) m xs) (hm : mark ≤ m) : w.ownsRow B e 1 (.slice (some ⟨nb, 0, none⟩) mark cap) mark (xs.take mark) := by
  obtain ⟨hl, (⟨h, _⟩ | ⟨g', cap', cur, hv, hg, hgb, h1, h2, h3, h4⟩)⟩ := h
  · cases h
  · cases hv
    refine ⟨by simp; omega, .inr ⟨_, _, cur, rfl, hg, hgb, by omega, h2, h3, ?_⟩⟩
    rw [← h4, List.take_take]
    congr 1; omega
theorem row_cells {w : World} {B m nb cap size : Nat} {e : TypeId} {xs : List Value} (h : w.ownsRow B e size (.slice (some ⟨nb, 0, none⟩) m cap) m xs) (j : Nat) (u : Value) (hu : xs[j]? = some u) : w.cell? ⟨nb, j, none⟩ = some u := by
  obtain ⟨hl, (⟨h, _⟩ | ⟨g', cap', cur, hv, hg, hgb, h1, h2, h3, h4⟩)⟩ := h
  · cases h
  · cases hv
    refine Blk.cell hgb j ?_
    rw [← h4] at hu
    rw [← Array.getElem?_toList]
    rw [List.getElem?_take] at hu
    split at hu
    · exact hu
    · cases hu
theorem row_base {w : World} {B B' size n : Nat} {e : TypeId} {v : Value} {xs : List Value} (h : w.ownsRow B e size v n xs) (hb : B' ≤ B) : w.ownsRow B' e size v n xs := by
  obtain ⟨hl, (⟨h, h2⟩ | ⟨g', cap', cur, hv, hg, hrest⟩)⟩ := h
  · exact ⟨hl, .inl ⟨h, h2⟩⟩
  · exact ⟨hl, .inr ⟨g', cap', cur, hv, Nat.le_trans hb hg, hrest⟩⟩
/-- A row that is not empty: it has a block. -/
theorem row_pos {w : World} {B size n : Nat} {e : TypeId} {v : Value} {xs : List Value} (h : w.ownsRow B e size v n xs) (hn : 0 < n) : ∃ g cap, v = .slice (some ⟨g, 0, none⟩) n cap ∧ B ≤ g ∧ g < w.heap.size := by
  obtain ⟨hl, (⟨h, h2⟩ | ⟨g', cap', cur, hv, hg, hgb, hrest⟩)⟩ := h
  · omega
  · exact ⟨g', cap', hv, hg, (Array.getElem?_eq_some_iff.1 hgb).1⟩
theorem row_len {w : World} {B size n : Nat} {e : TypeId} {v : Value} {xs : List Value} (h : w.ownsRow B e size v n xs) : ∃ ao cap, v = .slice ao n cap := by
  obtain ⟨hl, (⟨h, h2⟩ | ⟨g', cap', cur, hv, hg, hgb, hrest⟩)⟩ := h
  · exact ⟨none, 0, by rw [h, h2]⟩
  · exact ⟨_, _, hv⟩
end Go.Proofs.YbulkblmiFmt
