/-
  done, join, called: the leaves of the round.
-/
import Derived.Test.YbulkblmiDoorProg
import Derived.WalkKit
import Derived.WalkLawsBesides
import Derived.BigQuiet
import Derived.RegionTactic
import Derived.BigRegion
import Derived.Maps.AppendAt
import Derived.RangeFuncBox
namespace Go.Proofs.YbulkblmiDoor
open Go.RowKit

def Hid (p : Prop) : Prop := p
theorem hide {p : Prop} (h : p) : Hid p := h
theorem unhide {p : Prop} (h : Hid p) : p := h

abbrev stepV (sub : Value) (pos : Int) (ok : Bool) : Value := .agg #[sub, .int .i64 pos, .bool ok]

theorem done_calls (e : Int) (ok : Bool) (w : World) :
    Calls Ybad.prog 39 #[.int .i64 e, .bool ok] w fun r w' => r = .returned (stepV (.pointer none) e ok) ∧ w' = w.alloc (.cells #[.pointer none, .int .i64 e, .bool ok] 73) := by
  go_enter Ybad.func39, Ybad.ntmps39
  go_wp2
  simp [bodyPost, results, go_sem]

/-- The farther failure: the second. -/
theorem join_calls (p i j : Option Addr) (fp gp : Int) (w : World) (h : fp < gp) :
    Calls Ybad.prog 28 #[.pointer p, .agg #[.int .i64 fp, .pointer i], .agg #[.int .i64 gp, .pointer j]] w fun r w' => r = .returned (.agg #[.int .i64 gp, .pointer j]) ∧
      w' = ((w.alloc (.cells #[.int .i64 fp, .pointer i] 39)).alloc (.cells #[.int .i64 gp, .pointer j] 39)).alloc (.cells #[.int .i64 gp, .pointer j] 39) := by
  go_enter Ybad.func28, Ybad.ntmps28
  go_wp2
  simp [bodyPost, results, go_sem]

/-- What the parser's fields hold. -/
structure PS where
  rules : Value
  input : Value
  nodes : Value
  fp : Int
  fi : Value
  grown : Value
  growing : Value
  sr : Int
  st : Int

def pcells (s : PS) : Array Value := #[s.rules, .slice none 0 0, s.input, .slice none 0 0, .int .i64 0, s.nodes, .bool false, .int .i64 s.fp, s.fi, .map none,
  .int .i64 0, .slice none 0 0, .slice none 0 0, .slice none 0 0, .int .i64 0, s.grown, .int .i64 0, .slice none 0 0, .slice none 0 0, .slice none 0 0, .int .i64 0,
  .slice none 0 0, .slice none 0 0, s.growing, .int .i64 s.sr, .int .i64 s.st]

/-- The parser lies in block pb. -/
def PB (w : World) (pb : Nat) (s : PS) : Prop := w.heap[pb]? = some (.cells (pcells s) 68 (0, 0))

theorem PB.lt {w : World} {pb : Nat} {s : PS} (h : PB w pb s) : pb < w.heap.size := (Array.getElem?_eq_some_iff.1 h).1
theorem PB.frozen {w : World} {pb : Nat} {s : PS} (h : PB w pb s) (i : Nat) : w.frozen? ⟨pb, i, none⟩ = false := by simp [World.frozen?, show w.heap[pb]? = _ from h]
theorem PB.c0 {w : World} {pb : Nat} {s : PS} (h : PB w pb s) : w.cell? ⟨pb, 0, none⟩ = some s.rules := by simp [World.cell?, show w.heap[pb]? = _ from h, pcells]
theorem PB.c2 {w : World} {pb : Nat} {s : PS} (h : PB w pb s) : w.cell? ⟨pb, 2, none⟩ = some s.input := by simp [World.cell?, show w.heap[pb]? = _ from h, pcells]
theorem PB.c5 {w : World} {pb : Nat} {s : PS} (h : PB w pb s) : w.cell? ⟨pb, 5, none⟩ = some s.nodes := by simp [World.cell?, show w.heap[pb]? = _ from h, pcells]
theorem PB.c7 {w : World} {pb : Nat} {s : PS} (h : PB w pb s) : w.cell? ⟨pb, 7, none⟩ = some (.int .i64 s.fp) := by simp [World.cell?, show w.heap[pb]? = _ from h, pcells]
theorem PB.c8 {w : World} {pb : Nat} {s : PS} (h : PB w pb s) : w.cell? ⟨pb, 8, none⟩ = some s.fi := by simp [World.cell?, show w.heap[pb]? = _ from h, pcells]
theorem PB.c15 {w : World} {pb : Nat} {s : PS} (h : PB w pb s) : w.cell? ⟨pb, 15, none⟩ = some s.grown := by simp [World.cell?, show w.heap[pb]? = _ from h, pcells]
theorem PB.c23 {w : World} {pb : Nat} {s : PS} (h : PB w pb s) : w.cell? ⟨pb, 23, none⟩ = some s.growing := by simp [World.cell?, show w.heap[pb]? = _ from h, pcells]
theorem PB.c24 {w : World} {pb : Nat} {s : PS} (h : PB w pb s) : w.cell? ⟨pb, 24, none⟩ = some (.int .i64 s.sr) := by simp [World.cell?, show w.heap[pb]? = _ from h, pcells]
theorem PB.c25 {w : World} {pb : Nat} {s : PS} (h : PB w pb s) : w.cell? ⟨pb, 25, none⟩ = some (.int .i64 s.st) := by simp [World.cell?, show w.heap[pb]? = _ from h, pcells]

theorem heap_set_same {w : World} {b off : Nat} {cs : Array Value} {t : TypeId} {fz : Nat × Nat} (h : w.heap[b]? = some (.cells cs t fz)) (v : Value) : (w.setCell ⟨b, off, none⟩ v).heap[b]? = some (.cells (cs.setIfInBounds off v) t fz) := by
  obtain ⟨hlt, hk⟩ := Array.getElem?_eq_some_iff.1 h
  show (w.heap.modify b _)[b]? = _
  rw [Array.getElem?_eq_getElem (by rw [Array.size_modify]; exact hlt), Array.getElem_modify_self, hk]
  rfl

theorem PB.set5 {w : World} {pb : Nat} {s : PS} (h : PB w pb s) (v : Value) : PB (w.setCell ⟨pb, 5, none⟩ v) pb { s with nodes := v } := heap_set_same h v
theorem PB.set15 {w : World} {pb : Nat} {s : PS} (h : PB w pb s) (v : Value) : PB (w.setCell ⟨pb, 15, none⟩ v) pb { s with grown := v } := heap_set_same h v
theorem PB.set23 {w : World} {pb : Nat} {s : PS} (h : PB w pb s) (v : Value) : PB (w.setCell ⟨pb, 23, none⟩ v) pb { s with growing := v } := heap_set_same h v
theorem PB.set24 {w : World} {pb : Nat} {s : PS} (h : PB w pb s) (x : Int) : PB (w.setCell ⟨pb, 24, none⟩ (.int .i64 x)) pb { s with sr := x } := heap_set_same h (.int .i64 x)
theorem PB.set25 {w : World} {pb : Nat} {s : PS} (h : PB w pb s) (x : Int) : PB (w.setCell ⟨pb, 25, none⟩ (.int .i64 x)) pb { s with st := x } := heap_set_same h (.int .i64 x)
theorem PB.set7 {w : World} {pb : Nat} {s : PS} (h : PB w pb s) (x : Int) : PB (w.setCell ⟨pb, 7, none⟩ (.int .i64 x)) pb { s with fp := x } := heap_set_same h (.int .i64 x)
theorem PB.set8 {w : World} {pb : Nat} {s : PS} (h : PB w pb s) (v : Value) : PB (w.setCell ⟨pb, 8, none⟩ v) pb { s with fi := v } := heap_set_same h v

/-- From w to w' no block turns but those of T; new ones may come. -/
def Turns (w w' : World) (T : Nat → Prop) : Prop := w'.os = w.os ∧ w'.tape = w.tape ∧ w'.output = w.output ∧ w.heap.size ≤ w'.heap.size ∧ ∀ k, k < w.heap.size → ¬ T k → w'.heap[k]? = w.heap[k]?

theorem Turns.refl (w : World) (T : Nat → Prop) : Turns w w T := ⟨rfl, rfl, rfl, Nat.le_refl _, fun _ _ _ => rfl⟩
theorem Turns.mono {w w' : World} {T T' : Nat → Prop} (h : Turns w w' T) (ht : ∀ k, k < w.heap.size → T k → T' k) : Turns w w' T' :=
  ⟨h.1, h.2.1, h.2.2.1, h.2.2.2.1, fun k hk hn => h.2.2.2.2 k hk (fun hT => hn (ht k hk hT))⟩
theorem Turns.trans {a b c : World} {T : Nat → Prop} (h : Turns a b T) (k : Turns b c (fun i => T i ∨ a.heap.size ≤ i)) : Turns a c T :=
  ⟨k.1.trans h.1, k.2.1.trans h.2.1, k.2.2.1.trans h.2.2.1, Nat.le_trans h.2.2.2.1 k.2.2.2.1, fun i hi hn => (k.2.2.2.2 i (Nat.lt_of_lt_of_le hi h.2.2.2.1) (fun hT => hT.elim hn (fun hle => absurd hi (Nat.not_lt.2 hle)))).trans (h.2.2.2.2 i hi hn)⟩
theorem Turns.alloc {a w : World} {T : Nat → Prop} (h : Turns a w T) (o : Obj) : Turns a (w.alloc o) T :=
  h.trans ⟨rfl, rfl, rfl, by simp, fun k hk _ => Below.heap_alloc _ _ k hk⟩
theorem Turns.setCell {a w : World} {T : Nat → Prop} (h : Turns a w T) {p : Addr} (hp : T p.block ∨ a.heap.size ≤ p.block) (v : Value) : Turns a (w.setCell p v) T :=
  h.trans ⟨rfl, rfl, rfl, by simp [World.setCell], fun k _ hn => Below.heap_setCell _ _ _ k (fun e => hn (e ▸ hp))⟩
theorem Turns.drew {a w : World} {T : Nat → Prop} (h : Turns a w T) : Turns a w.drew T := h.trans ⟨rfl, rfl, rfl, Nat.le_refl _, fun _ _ _ => rfl⟩
theorem Turns.grown {a w w' : World} {T : Nat → Prop} {row : Option Nat} (h : Turns a w T) (hg : w.grownBy w' row) (hr : ∀ k, row = some k → T k ∨ a.heap.size ≤ k) : Turns a w' T :=
  h.trans ⟨hg.os, hg.tape, hg.output, hg.size, fun k hk hn => hg.block k hk (fun e => hn (hr k e.symm))⟩
theorem Turns.below {a w w' : World} {T : Nat → Prop} (h : Turns a w T) (hb : Below w.heap.size w w') : Turns a w' T :=
  h.trans ⟨hb.os, hb.tape, hb.output, hb.size, fun k hk _ => hb.block k hk⟩
theorem Turns.to_below {B : Nat} {w w' : World} {T : Nat → Prop} (h : Turns w w' T) (hB : B ≤ w.heap.size) (hT : ∀ k, T k → B ≤ k) : Below B w w' :=
  ⟨h.1, h.2.1, h.2.2.1, h.2.2.2.1, fun k hk => h.2.2.2.2 k (Nat.lt_of_lt_of_le hk hB) (fun ht => absurd hk (Nat.not_lt.2 (hT k ht)))⟩
theorem Turns.cell {w w' : World} {T : Nat → Prop} (h : Turns w w' T) {p : Addr} (hp : p.block < w.heap.size) (hn : ¬ T p.block) : w'.cell? p = w.cell? p := World.cell?_of_block (h.2.2.2.2 _ hp hn)
theorem Turns.pb {w w' : World} {T : Nat → Prop} (h : Turns w w' T) {pb : Nat} {s : PS} (hp : PB w pb s) (hn : ¬ T pb) : PB w' pb s := (h.2.2.2.2 _ hp.lt hn).trans hp

theorem ownBlock_lt {w : World} {base size n : Nat} {e : TypeId} {v : Value} {xs : List Value} (h : w.ownsRow base e size v n xs) : ∀ k, v.ownBlock = some k → k < w.heap.size := by
  intro k hk
  rcases h.2 with ⟨rfl, _⟩ | ⟨g, cap, cur, rfl, hb, hgb, _⟩
  · simp [Value.ownBlock] at hk
  · obtain rfl : g = k := by simpa [Value.ownBlock] using hk
    exact (Array.getElem?_eq_some_iff.1 hgb).1

theorem ownsRow_block {w : World} {base size n g cap : Nat} {e : TypeId} {xs : List Value} (h : w.ownsRow base e size (.slice (some ⟨g, 0, none⟩) n cap) n xs) : g < w.heap.size := ownBlock_lt h g rfl

theorem ownsRow_other {w : World} {base size n g cap : Nat} {e : TypeId} {xs : List Value} (h : w.ownsRow base e size (.slice (some ⟨g, 0, none⟩) n cap) n xs) (p : Addr) (hp : p.block ≠ g) (u : Value) : (w.setCell p u).ownsRow base e size (.slice (some ⟨g, 0, none⟩) n cap) n xs := by
  obtain ⟨hl, (⟨h, _⟩ | ⟨g', cap', cur, hv, hg, hgb, hrest⟩)⟩ := h
  · cases h
  · cases hv
    exact ⟨hl, .inr ⟨_, _, cur, rfl, hg, (Below.heap_setCell _ _ _ _ (fun e => hp e.symm)).trans hgb, hrest⟩⟩

theorem row_ne {w : World} {base size n g cap k : Nat} {e t : TypeId} {xs : List Value} {cs : Array Value} {fz : Nat × Nat} (hp : w.heap[k]? = some (.cells cs t fz)) (h : w.ownsRow base e size (.slice (some ⟨g, 0, none⟩) n cap) n xs) (he : t ≠ e) : k ≠ g := by
  rintro rfl
  obtain ⟨hl, (⟨h, _⟩ | ⟨g', cap', cur, hv, hg, hgb, hrest⟩)⟩ := h
  · cases h
  · cases hv
    have := hp.symm.trans hgb
    simp at this
    exact he this.2.1

/-- The result's box behind its store. -/
theorem res_set {W : World} {r : Nat} {a b c : Value} {t : TypeId} (h : W.heap[r]? = some (.cells #[a, b, c] t (0, 0))) (x y z : Value) : (((W.setCell ⟨r, 0, none⟩ x).setCell ⟨r, 1, none⟩ y).setCell ⟨r, 2, none⟩ z).heap[r]? = some (.cells #[x, y, z] t (0, 0)) :=
  heap_set_same (heap_set_same (heap_set_same h x) y) z
theorem res_other {W : World} {r k : Nat} (hk : k ≠ r) (x y z : Value) : (((W.setCell ⟨r, 0, none⟩ x).setCell ⟨r, 1, none⟩ y).setCell ⟨r, 2, none⟩ z).heap[k]? = W.heap[k]? :=
  (Below.heap_setCell _ _ _ k hk).trans ((Below.heap_setCell _ _ _ k hk).trans (Below.heap_setCell _ _ _ k hk))

theorem info33 : (Ybad.prog.info? 33).map (fun i => (i.zero, i.size, i.bytes)) = some (some (.pointer none), 1, 8) := by kernel_rfl

set_option maxRecDepth 100000 in
set_option maxHeartbeats 1000000 in
/-- A rule that matched as the node at g: it joins the nodes. -/
theorem called_calls (pb B m g : Nat) (e pos : Int) (s : PS) (xs : List Value) (w : World) (hp : PB w pb s) (hrow : w.ownsRow B 33 1 s.nodes m xs) (hB : B ≤ w.heap.size) (hm : m ≤ 10) (hg : w.cell? ⟨g, 2, none⟩ = some (.int .i64 e)) (hgp : g ≠ pb) (hgr : some g ≠ s.nodes.ownBlock) (hpr : some pb ≠ s.nodes.ownBlock) :
    Calls Ybad.prog 29 #[.pointer (some ⟨pb, 0, none⟩), .pointer (some ⟨g, 0, none⟩), .int .i64 pos] w fun r w' => r = .returned (stepV (.pointer none) e true) ∧
      ∃ v, PB w' pb { s with nodes := v } ∧ w'.ownsRow B 33 1 v (m + 1) (xs ++ [.pointer (some ⟨g, 0, none⟩)]) ∧ Turns w w' (fun k => k = pb ∨ s.nodes.ownBlock = some k) := by
  have hgp2 : g ≠ pb := hgp
  obtain ⟨i0, hi, hz0, hz1, hz2⟩ := info_parts info33
  obtain ⟨rules, input, nodes, fp, fi, grown, growing, sr, st⟩ := s
  have h5 := hp.c5
  have f5 := hp.frozen 5
  have hpl := hp.lt
  have hgl := World.block_lt_of_cell? w _ hg
  have HP := hide hp
  have HR := hide hrow
  clear hp hrow
  go_enter Ybad.func29, Ybad.ntmps29
  simp only at *
  go_wp2_with (at_builtin; refine wpList_append_own _ rfl (.tmp 15) (.tmp 17) 32 rfl B 33 i0 (.pointer none) 1 8 Ybad.underlying32 hi hz0 hz1 hz2 rfl (by decide) _ m _ rfl (((unhide HR).alloc _).alloc _) ⟨w.heap.size + 1, 0, none⟩ 1 1 [.pointer (some ⟨g, 0, none⟩)] rfl rfl ?hcn ?h1c ?c3 ?c4 ?c5 ?_)
  case hcn => have := cell_one_new (w.alloc (Obj.cells #[Value.pointer none, Value.int IntKind.i64 0, Value.bool false] 73)) (.pointer (some ⟨g, 0, none⟩)) 33; rwa [World.size_alloc] at this
  case h1c => simp [Value.oneCell']
  case c3 => unfold maxLen; omega
  case c4 => omega
  case c5 => simp only [World.size_alloc]; omega
  intro v' w1 hown' hgrow _
  obtain ⟨g', cap', rfl⟩ := ownsRow_succ hown'
  have hbl := ownBlock_lt (unhide HR)
  have kept : ∀ k, k < w.heap.size + 1 → some k ≠ nodes.ownBlock → w1.heap[k]? = (w.alloc (Obj.cells #[Value.pointer none, Value.int IntKind.i64 0, Value.bool false] 73)).heap[k]? := fun k hk hne =>
    (hgrow.block k (by simp only [World.size_alloc]; omega) hne).trans (Below.heap_alloc _ _ k (by simp only [World.size_alloc]; omega))
  have hP1 : PB w1 pb ⟨rules, input, nodes, fp, fi, grown, growing, sr, st⟩ := (kept pb (by omega) hpr).trans ((Below.heap_alloc _ _ pb hpl).trans (unhide HP))
  have hres : w1.heap[w.heap.size]? = some (.cells #[.pointer none, .int .i64 0, .bool false] 73 (0, 0)) := (kept _ (by omega) (fun e => by have := hbl _ e.symm; omega)).trans (World.alloc_heap_new w _)
  have hg1 : w1.cell? ⟨g, 2, none⟩ = some (.int .i64 e) := (World.cell?_of_block (a := ⟨g, 2, none⟩) ((kept g (by omega) hgr).trans (Below.heap_alloc _ _ g hgl))).trans hg
  have hsz1 : w.heap.size + 2 ≤ w1.heap.size := by have := hgrow.size; simpa only [World.size_alloc] using this
  have hT : Turns w w1 (fun k => k = pb ∨ nodes.ownBlock = some k) := (((Turns.refl w _).alloc _).alloc _).grown hgrow (fun k e => .inl (.inr e))
  have h51 := hP1.c5
  have f51 := hP1.frozen 5
  have hgl' := ownsRow_block hown'
  have hrow2 : (w1.setCell ⟨pb, 5, none⟩ (.slice (some ⟨g', 0, none⟩) (m + 1) cap')).ownsRow B 33 1 (.slice (some ⟨g', 0, none⟩) (m + 1) cap') (m + 1) (xs ++ [.pointer (some ⟨g, 0, none⟩)]) :=
    ownsRow_other hown' ⟨pb, 5, none⟩ (row_ne hP1 hown' (by decide)) _
  have HW := hide hrow2
  have HP1 := hide hP1
  have HT := hide hT
  have HRES := hide hres
  clear hrow2 hP1 hT kept hgrow hown' hres HP HR h5 f5 hgr hpr
  go_wp2_with fail
  refine (done_calls _ _ _).mono ?_
  rintro r w2 ⟨rfl, rfl⟩
  have hP2 := ((unhide HP1).set5 (.slice (some ⟨g', 0, none⟩) (m + 1) cap'))
  have hT2 := (unhide HT).setCell (p := ⟨pb, 5, none⟩) (.inl (.inl rfl)) (.slice (some ⟨g', 0, none⟩) (m + 1) cap')
  have hsz2 : (w1.setCell ⟨pb, 5, none⟩ (.slice (some ⟨g', 0, none⟩) (m + 1) cap')).heap.size = w1.heap.size := by simp [World.setCell]
  have hres2 : (w1.setCell ⟨pb, 5, none⟩ (.slice (some ⟨g', 0, none⟩) (m + 1) cap')).heap[w.heap.size]? = some (.cells #[.pointer none, .int .i64 0, .bool false] 73 (0, 0)) := (Below.heap_setCell _ _ _ _ (by show w.heap.size ≠ pb; omega)).trans (unhide HRES)
  obtain ⟨W2, hW2⟩ : ∃ W2, w1.setCell ⟨pb, 5, none⟩ (.slice (some ⟨g', 0, none⟩) (m + 1) cap') = W2 := ⟨_, rfl⟩
  rw [hW2] at hP2 hT2 hsz2 hres2 HW ⊢
  clear hW2 HP1 HT HRES h51 f51
  have hres3 : (W2.alloc (.cells #[.pointer none, .int .i64 e, .bool true] 73)).heap[w.heap.size]? = some (.cells #[.pointer none, .int .i64 0, .bool false] 73 (0, 0)) := (Below.heap_alloc _ _ _ (by omega)).trans hres2
  have hP3 : PB (W2.alloc (.cells #[.pointer none, .int .i64 e, .bool true] 73)) pb _ := (Below.heap_alloc _ _ pb (by omega)).trans hP2
  have hT3 := hT2.alloc (.cells #[.pointer none, .int .i64 e, .bool true] 73)
  have hW3 := (unhide HW).alloc (.cells #[.pointer none, .int .i64 e, .bool true] 73)
  obtain ⟨W3, hW3e⟩ : ∃ W3, W2.alloc (.cells #[.pointer none, .int .i64 e, .bool true] 73) = W3 := ⟨_, rfl⟩
  rw [hW3e] at hres3 hP3 hT3 hW3 ⊢
  clear hW3e
  have hr0 : W3.cell? ⟨w.heap.size, 0, none⟩ = some (.pointer none) := by simp [World.cell?, hres3]
  have hr1 : W3.cell? ⟨w.heap.size, 1, none⟩ = some (.int .i64 0) := by simp [World.cell?, hres3]
  have hr2 : W3.cell? ⟨w.heap.size, 2, none⟩ = some (.bool false) := by simp [World.cell?, hres3]
  have fr0 : W3.frozen? ⟨w.heap.size, 0, none⟩ = false := by simp [World.frozen?, hres3]
  have fr1 : W3.frozen? ⟨w.heap.size, 1, none⟩ = false := by simp [World.frozen?, hres3]
  have fr2 : W3.frozen? ⟨w.heap.size, 2, none⟩ = false := by simp [World.frozen?, hres3]
  have HP3 := hide hP3
  have HT3 := hide hT3
  have HW3 := hide hW3
  have HR3 := hide hres3
  clear hP3 hT3 hW3 hP2 hT2 HW hres2 hres3
  go_wp2
  have hr4 := res_set (unhide HR3) (.pointer none) (.int .i64 e) (.bool true)
  have hP4 : PB _ pb _ := (res_other (W := W3) (r := w.heap.size) (k := pb) (by omega) (.pointer none) (.int .i64 e) (.bool true)).trans (unhide HP3)
  have hT4 := (((unhide HT3).setCell (p := ⟨w.heap.size, 0, none⟩) (.inr (Nat.le_refl _)) (.pointer none)).setCell (p := ⟨w.heap.size, 1, none⟩) (.inr (Nat.le_refl _)) (.int .i64 e)).setCell (p := ⟨w.heap.size, 2, none⟩) (.inr (Nat.le_refl _)) (.bool true)
  have hne := row_ne (unhide HR3) (unhide HW3) (by decide)
  have hW4 := ownsRow_other (ownsRow_other (ownsRow_other (unhide HW3) ⟨w.heap.size, 0, none⟩ hne (.pointer none)) ⟨w.heap.size, 1, none⟩ hne (.int .i64 e)) ⟨w.heap.size, 2, none⟩ hne (.bool true)
  obtain ⟨W4, hW4e⟩ : ∃ W4, ((W3.setCell ⟨w.heap.size, 0, none⟩ (Value.pointer none)).setCell ⟨w.heap.size, 1, none⟩ (Value.int IntKind.i64 e)).setCell ⟨w.heap.size, 2, none⟩ (Value.bool true) = W4 := ⟨_, rfl⟩
  rw [hW4e] at hr4 hP4 hT4 hW4 ⊢
  have c0 : W4.cell? ⟨w.heap.size, 0, none⟩ = some (.pointer none) := by simp [World.cell?, hr4]
  have c1 : W4.cell? ⟨w.heap.size, 1, none⟩ = some (.int .i64 e) := by simp [World.cell?, hr4]
  have c2 : W4.cell? ⟨w.heap.size, 2, none⟩ = some (.bool true) := by simp [World.cell?, hr4]
  simp [bodyPost, results, go_sem, c0, c1, c2]
  exact ⟨_, hP4, hW4, hT4⟩
end Go.Proofs.YbulkblmiDoor
