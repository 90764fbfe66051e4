/-
  Whole blocks: the frame, the growths, the node, the rules; behind stores and new blocks.
-/
import Derived.Test.YbulkblmiDoorLeaves
namespace Go.Proofs.YbulkblmiDoor
open Go.RowKit

/-- Block k holds the cells cs of type t. -/
def Blk (w : World) (k : Nat) (cs : Array Value) (t : TypeId) : Prop := w.heap[k]? = some (.cells cs t (0, 0))

section
variable {w : World} {k : Nat} {cs : Array Value} {t : TypeId}
theorem Blk.lt (h : Blk w k cs t) : k < w.heap.size := (Array.getElem?_eq_some_iff.1 h).1
theorem Blk.frozen (h : Blk w k cs t) (i : Nat) : w.frozen? ⟨k, i, none⟩ = false := by simp [World.frozen?, show w.heap[k]? = _ from h]
theorem Blk.cell (h : Blk w k cs t) (i : Nat) {v : Value} (hv : cs[i]? = some v) : w.cell? ⟨k, i, none⟩ = some v := by simp [World.cell?, show w.heap[k]? = _ from h, hv]
theorem Blk.set (h : Blk w k cs t) (i : Nat) (v : Value) : Blk (w.setCell ⟨k, i, none⟩ v) k (cs.setIfInBounds i v) t := heap_set_same h v
theorem Blk.other (h : Blk w k cs t) (a : Addr) (v : Value) (ha : k ≠ a.block) : Blk (w.setCell a v) k cs t := (Below.heap_setCell _ _ _ k ha).trans h
theorem Blk.alloc (h : Blk w k cs t) (o : Obj) : Blk (w.alloc o) k cs t := (Below.heap_alloc _ _ k h.lt).trans h
theorem Blk.drew (h : Blk w k cs t) : Blk w.drew k cs t := h
theorem Blk.new (w : World) (cs : Array Value) (t : TypeId) : Blk (w.alloc (.cells cs t)) w.heap.size cs t := World.alloc_heap_new w _
theorem Blk.turns (h : Blk w k cs t) {w' : World} {T : Nat → Prop} (ht : Turns w w' T) (hn : ¬ T k) : Blk w' k cs t := (ht.2.2.2.2 k h.lt hn).trans h
theorem Blk.below (h : Blk w k cs t) {w' : World} (hb : Below w.heap.size w w') : Blk w' k cs t := (hb.block k h.lt).trans h
end

theorem size_setCell (w : World) (a : Addr) (v : Value) : (w.setCell a v).heap.size = w.heap.size := by simp [World.setCell]

/-- A row that is not the block written. -/
theorem row_other {w : World} {B size n : Nat} {e : TypeId} {v : Value} {xs : List Value} (h : w.ownsRow B e size v n xs) (p : Addr) (hp : some p.block ≠ v.ownBlock) (u : Value) : (w.setCell p u).ownsRow B e size v n xs := by
  obtain ⟨hl, (⟨h, h2⟩ | ⟨g', cap', cur, hv, hg, hgb, hrest⟩)⟩ := h
  · exact ⟨hl, .inl ⟨h, h2⟩⟩
  · subst hv
    exact ⟨hl, .inr ⟨_, _, cur, rfl, hg, (Below.heap_setCell _ _ _ _ (fun e => hp (by simp [Value.ownBlock, e]))).trans hgb, hrest⟩⟩
theorem row_turns {w w' : World} {B size n : Nat} {e : TypeId} {v : Value} {xs : List Value} {T : Nat → Prop} (h : w.ownsRow B e size v n xs) (ht : Turns w w' T) (hn : ∀ k, v.ownBlock = some k → ¬ T k) : w'.ownsRow B e size v n xs := by
  obtain ⟨hl, (⟨h, h2⟩ | ⟨g', cap', cur, hv, hg, hgb, hrest⟩)⟩ := h
  · exact ⟨hl, .inl ⟨h, h2⟩⟩
  · subst hv
    exact ⟨hl, .inr ⟨_, _, cur, rfl, hg, (ht.2.2.2.2 _ (Array.getElem?_eq_some_iff.1 hgb).1 (hn _ rfl)).trans hgb, hrest⟩⟩

/-- The frame of the call: what it holds. -/
def fcells (e : Value) (pos next mark : Int) : Array Value := #[e, .int .i64 pos, .int .i64 next, .int .i64 0, .int .i64 mark, .int .i64 (-1), .pointer none, .int .i64 0]
abbrev FB (w : World) (fb : Nat) (e : Value) (pos next mark : Int) : Prop := Blk w fb (fcells e pos next mark) 71

section
variable {w : World} {fb : Nat} {e : Value} {pos next mark : Int}
theorem FB.c0 (h : FB w fb e pos next mark) : w.cell? ⟨fb, 0, none⟩ = some e := Blk.cell h 0 rfl
theorem FB.c1 (h : FB w fb e pos next mark) : w.cell? ⟨fb, 1, none⟩ = some (.int .i64 pos) := Blk.cell h 1 rfl
theorem FB.c2 (h : FB w fb e pos next mark) : w.cell? ⟨fb, 2, none⟩ = some (.int .i64 next) := Blk.cell h 2 rfl
theorem FB.c4 (h : FB w fb e pos next mark) : w.cell? ⟨fb, 4, none⟩ = some (.int .i64 mark) := Blk.cell h 4 rfl
theorem FB.c5 (h : FB w fb e pos next mark) : w.cell? ⟨fb, 5, none⟩ = some (.int .i64 (-1)) := Blk.cell h 5 rfl
theorem FB.c6 (h : FB w fb e pos next mark) : w.cell? ⟨fb, 6, none⟩ = some (.pointer none) := Blk.cell h 6 rfl
theorem FB.c7 (h : FB w fb e pos next mark) : w.cell? ⟨fb, 7, none⟩ = some (.int .i64 0) := Blk.cell h 7 rfl
theorem FB.set2 (h : FB w fb e pos next mark) (x : Int) : FB (w.setCell ⟨fb, 2, none⟩ (.int .i64 x)) fb e pos x mark := Blk.set h 2 (.int .i64 x)
end

/-- The two growths. -/
def gcells (pos : Int) (seed : Value) (fr : Int) (tir po : Bool) (gf : Int) : Array Value :=
  #[.int .i64 0, .int .i64 pos, .pointer none, .int .i64 0, .bool false, .bool false, .bool false, .int .i64 0, .int .i64 0, .bool false, .bool false,
    .int .i64 0, .int .i64 pos, seed, .int .i64 fr, .bool false, .bool tir, .bool po, .int .i64 0, .int .i64 gf, .bool false, .bool false]
abbrev GB (w : World) (gb : Nat) (pos : Int) (seed : Value) (fr : Int) (tir po : Bool) (gf : Int) : Prop := Blk w gb (gcells pos seed fr tir po gf) 49

section
variable {w : World} {gb : Nat} {pos : Int} {seed : Value} {fr : Int} {tir po : Bool} {gf : Int}
theorem GB.c11 (h : GB w gb pos seed fr tir po gf) : w.cell? ⟨gb, 11, none⟩ = some (.int .i64 0) := Blk.cell h 11 rfl
theorem GB.c12 (h : GB w gb pos seed fr tir po gf) : w.cell? ⟨gb, 12, none⟩ = some (.int .i64 pos) := Blk.cell h 12 rfl
theorem GB.c13 (h : GB w gb pos seed fr tir po gf) : w.cell? ⟨gb, 13, none⟩ = some seed := Blk.cell h 13 rfl
theorem GB.c14 (h : GB w gb pos seed fr tir po gf) : w.cell? ⟨gb, 14, none⟩ = some (.int .i64 fr) := Blk.cell h 14 rfl
theorem GB.c15 (h : GB w gb pos seed fr tir po gf) : w.cell? ⟨gb, 15, none⟩ = some (.bool false) := Blk.cell h 15 rfl
theorem GB.c16 (h : GB w gb pos seed fr tir po gf) : w.cell? ⟨gb, 16, none⟩ = some (.bool tir) := Blk.cell h 16 rfl
theorem GB.c17 (h : GB w gb pos seed fr tir po gf) : w.cell? ⟨gb, 17, none⟩ = some (.bool po) := Blk.cell h 17 rfl
theorem GB.c18 (h : GB w gb pos seed fr tir po gf) : w.cell? ⟨gb, 18, none⟩ = some (.int .i64 0) := Blk.cell h 18 rfl
theorem GB.c19 (h : GB w gb pos seed fr tir po gf) : w.cell? ⟨gb, 19, none⟩ = some (.int .i64 gf) := Blk.cell h 19 rfl
theorem GB.c20 (h : GB w gb pos seed fr tir po gf) : w.cell? ⟨gb, 20, none⟩ = some (.bool false) := Blk.cell h 20 rfl
theorem GB.c21 (h : GB w gb pos seed fr tir po gf) : w.cell? ⟨gb, 21, none⟩ = some (.bool false) := Blk.cell h 21 rfl
theorem GB.set13 (h : GB w gb pos seed fr tir po gf) (v : Value) : GB (w.setCell ⟨gb, 13, none⟩ v) gb pos v fr tir po gf := Blk.set h 13 v
theorem GB.set14 (h : GB w gb pos seed fr tir po gf) (x : Int) : GB (w.setCell ⟨gb, 14, none⟩ (.int .i64 x)) gb pos seed x tir po gf := Blk.set h 14 (.int .i64 x)
theorem GB.set16 (h : GB w gb pos seed fr tir po gf) (x : Bool) : GB (w.setCell ⟨gb, 16, none⟩ (.bool x)) gb pos seed fr x po gf := Blk.set h 16 (.bool x)
theorem GB.set17 (h : GB w gb pos seed fr tir po gf) (x : Bool) : GB (w.setCell ⟨gb, 17, none⟩ (.bool x)) gb pos seed fr tir x gf := Blk.set h 17 (.bool x)
end

theorem PB.blk {w : World} {pb : Nat} {s : PS} (h : PB w pb s) : Blk w pb (pcells s) 68 := h
end Go.Proofs.YbulkblmiDoor
