/-
  reachable: the search marks what is reached, and no more.
-/
import Derived.Test.YbulkblmiFmtDfs
import Derived.Test.YbulkblmiFmtBlocks
import Derived.Deep.LoopGhost
namespace Go.Proofs.YbulkblmiFmt
open Go.RowKit

theorem info4 : (Ybaf.prog.info? 4).map (fun i => (i.zero, i.size, i.bytes)) = some (some (.bool false), 1, 1) := by kernel_rfl

def bools (m : List Bool) : Array Value := (m.map Value.bool).toArray
theorem bools_get {m : List Bool} {i : Nat} {b : Bool} (h : m[i]? = some b) : (bools m)[i]? = some (.bool b) := by simp [bools, h]
theorem bools_set (m : List Bool) (i : Nat) (b : Bool) : (bools m).setIfInBounds i (.bool b) = bools (m.set i b) := by simp [bools, List.map_set]

theorem row_full {w : World} {B g n size : Nat} {e : TypeId} {xs : List Value} (h : w.ownsRow B e size (.slice (some ⟨g, 0, none⟩) n n) n xs) : Blk w g xs.toArray e := by
  obtain ⟨hl, (⟨h, _⟩ | ⟨g', cap', cur, hv, hg, hgb, h1, h2, h3, h4⟩)⟩ := h
  · cases h
  · cases hv
    rw [← h4, List.take_of_length_le (by simp [h3])]
    exact hgb
theorem row_bools {w : World} {B g n : Nat} (h : w.ownsRow B 4 1 (.slice (some ⟨g, 0, none⟩) n n) n (madeCells #[Value.bool false] n).toList) : Blk w g (bools (List.replicate n false)) 4 := by
  have := row_full h
  rw [toList_madeCells_one] at this
  simpa [bools] using this

/-- The call graph, as it lies: a row of integers for each point. -/
def Graph (w : World) (cb n : Nat) (E : Nat → List Nat) : Prop := ∀ u, u < n → ∃ g cap B, w.cell? ⟨cb, u, none⟩ = some (.slice (some ⟨g, 0, none⟩) (E u).length cap) ∧ w.ownsRow B 3 1 (.slice (some ⟨g, 0, none⟩) (E u).length cap) (E u).length (ints (E u))

theorem Graph.below {w w' : World} {cb n B : Nat} {E : Nat → List Nat} (h : Graph w cb n E) (hb : Below B w w') (hB : w.heap.size ≤ B) : Graph w' cb n E := by
  intro u hu
  obtain ⟨g, cap, B', h1, h2⟩ := h u hu
  refine ⟨g, cap, B', ?_, ?_⟩
  · rw [← h1]; exact World.cell?_of_block (hb.block _ (Nat.lt_of_lt_of_le (World.block_lt_of_cell? w _ h1) hB))
  · exact row_turns (T := fun k => B ≤ k) h2 ⟨hb.os, hb.tape, hb.output, hb.size, fun k hk hn => hb.block k (Nat.lt_of_not_le hn)⟩ (fun k hk => by have := ownBlock_lt h2 k hk; omega)

/-- What a search from s marks. -/
def Marks (E : Nat → List Nat) (s n : Nat) (m : List Bool) : Prop := m.length = n ∧ m[s]? = some true ∧ (∀ u : Nat, m[u]? = some true → ∀ v ∈ E u, m[v]? = some true) ∧ ∀ u : Nat, m[u]? = some true → Reach E s u

theorem marks_get {m : List Bool} {n i : Nat} (h : m.length = n) (hi : i < n) : ∃ b, m[i]? = some b := ⟨_, List.getElem?_eq_getElem (by omega)⟩

theorem row_cap {w : World} {B m nb cap size : Nat} {e : TypeId} {xs : List Value} (h : w.ownsRow B e size (.slice (some ⟨nb, 0, none⟩) m cap) m xs) : m ≤ cap ∧ cap ≤ maxLen := by
  obtain ⟨hl, (⟨h, _⟩ | ⟨g', cap', cur, hv, hg, hgb, h1, h2, h3, h4⟩)⟩ := h
  · cases h
  · cases hv
    exact ⟨h1, h2⟩

/-- A list that is not empty: its last. -/
theorem last_of {todo : List Nat} {k : Nat} (h : todo.length = k + 1) : ∃ l r, todo = l ++ [r] ∧ l.length = k := by
  refine ⟨todo.dropLast, todo.getLast (by intro e; simp [e] at h), (List.dropLast_concat_getLast _).symm, by simp [h]⟩

set_option maxRecDepth 100000 in
set_option maxHeartbeats 2000000 in
theorem reachable_calls (cb n s fb fc : Nat) (E : Nat → List Nat) (w : World) (hs : s < n) (hn : n ≤ 256) (hE : ∀ u, u < n → ∀ v ∈ E u, v < n) (hEl : ∀ u, u < n → (E u).length ≤ 1024) (hG : Graph w cb n E)
    (hf : w.cell? ⟨fb, 0, none⟩ = some (.int .i64 s)) :
    Calls Ybaf.prog 9 #[.slice (some ⟨cb, 0, none⟩) n n, .slice (some ⟨fb, 0, none⟩) 1 fc] w fun r w' => ∃ m, Marks E s n m ∧ r = .returned (.slice (some ⟨w.heap.size, 0, none⟩) n n) ∧ Blk w' w.heap.size (bools m) 4 ∧ Below w.heap.size w w' := by
  obtain ⟨i4, hi4, z4a, z4b, z4c⟩ := info_parts info4
  obtain ⟨i3, hi3, z3a, z3b, z3c⟩ := info_parts info3
  have HE := hide hE
  have HEL := hide hEl
  have HG := hide hG
  have HF := hide hf
  have hfl : fb < w.heap.size := World.block_lt_of_cell? w _ hf
  clear hE hEl hG hf
  go_enter Ybaf.func9, Ybaf.ntmps9
  go_wp2_with (at_make; refine wpList_make_full _ rfl _ _ 42 rfl w.heap.size 4 i4 (.bool false) 1 Ybaf.underlying42 hi4 z4a z4b _ _ _ _ n rfl rfl rfl rfl (by rw [z4c]; omega) (by unfold maxLen; omega) (Nat.le_refl _) ?_)
  intro w1 hrow1 hgr1
  have hM1 := hide (row_bools hrow1)
  have hb1 : Below w.heap.size w w1 := (Below.refl _ w).grown hgr1 (Nat.le_refl _) (fun k e => by cases e)
  have HB1 := hide hb1
  have hsz1 := (unhide hM1).lt
  clear hrow1 hgr1 hb1
  go_wp2_with fail
  refine (clone_calls fb 1 fc [s] w1 rfl (by omega) ?_).mono ?_
  · intro j u hu
    cases j with
    | zero =>
      simp [ints] at hu
      subst hu
      exact ((unhide HB1).cell (p := ⟨fb, 0, none⟩) hfl).trans (unhide HF)
    | succ j => simp [ints] at hu
  rintro e w2 ⟨v, rfl, hown2, hb2⟩
  have hM2 := (unhide hM1).below hb2 hsz1
  have HO2 := hide (row_base hown2 (Nat.succ_le_of_lt hsz1))
  have HB2 := hide ((unhide HB1).trans (hb2.mono (by omega)))
  have HM2 := hide hM2
  clear hown2 hb2 hM2 hM1 HB1
  go_wp2_with fail
  go_loopg [6] (n * 1025 + 1) (fun gf t wx => ∃ (m : List Bool) (todo : List Nat), Hid (Dfs E s n m todo) ∧ Hid (todo.length ≤ 1 + 1024 * marked m) ∧ Hid ((n - marked m) * 1025 + todo.length ≤ gf) ∧ Hid (wx.ownsRow (w.heap.size + 1) 3 1 t todo.length (ints todo)) ∧ Hid (Blk wx w.heap.size (bools m) 4) ∧ Hid (Below w.heap.size w wx))
  case atStart => exact ⟨List.replicate n false, [s], Dfs.at_start E s n hs, hide (by simp), hide (by simp [marked]), HO2, HM2, HB2⟩
  case round =>
    obtain ⟨m, todo, HD, HL, HK, HO, HM, HB⟩ := hrel
    cases htl : todo.length with
    | zero =>
      obtain rfl : todo = [] := List.length_eq_zero_iff.1 htl
      obtain ⟨ao, cap, rfl⟩ := row_len (unhide HO)
      simp only [List.length_nil] at *
      go_wp2
      go_ret
      exact ⟨m, (unhide HD).ended, rfl, unhide HM, unhide HB⟩
    | succ k =>
      obtain ⟨l, r, rfl, hl⟩ := last_of htl
      obtain ⟨g, cap, rfl, hgB, hgl⟩ := row_pos (unhide HO) (by simp)
      rw [htl] at HO HL HK ⊢
      have hrn : r < n := (unhide HD).tl r (by simp)
      have cr : wr.cell? ⟨g, k, none⟩ = some (.int .i64 r) := row_cells (unhide HO) k _ (by simp [ints, hl])
      obtain ⟨b, hb⟩ := marks_get (unhide HD).len hrn
      have cm : wr.cell? ⟨w.heap.size, r, none⟩ = some (.bool b) := (unhide HM).cell r (bools_get hb)
      have zm := (unhide HM).frozen r
      have HT := hide (row_take (mark := k) (unhide HO) (by omega))
      obtain ⟨hc1, hc2⟩ := row_cap (unhide HO)
      have hmk : marked m ≤ n := by have := marked_le m; rw [(unhide HD).len] at this; exact this
      have hkb : k ≤ 262144 := by have := unhide HL; omega
      cases b with
      | true =>
        clear htl
        go_wp2
        go_roundg (gk - 1)
        case measure => have := unhide HK; omega
        case rel =>
          refine ⟨m, l, (unhide HD).passed hb, hide (by have := unhide HL; omega), hide (by have := unhide HK; omega), hide ?_, HM, HB⟩
          have := unhide HT
          rw [hl]
          simpa [ints, hl] using this
      | false =>
        obtain ⟨g2, c2, B2, ce, he⟩ := unhide HG r hrn
        have hcbl : cb < w.heap.size := World.block_lt_of_cell? w _ ce
        have hg2l : g2 < w.heap.size := ownBlock_lt he g2 rfl
        have ce1 : (wr.setCell ⟨w.heap.size, r, none⟩ (.bool true)).cell? ⟨cb, r, none⟩ = some (.slice (some ⟨g2, 0, none⟩) (E r).length c2) := by
          rw [World.cell?_setCell_other _ _ _ _ (by simp)]
          exact ((unhide HB).cell (p := ⟨cb, r, none⟩) hcbl).trans ce
        have hEr := unhide HEL r hrn
        have HM2 := hide ((unhide HM).set r (.bool true))
        rw [bools_set] at HM2
        have HB2 := hide ((unhide HB).setCell (p := ⟨w.heap.size, r, none⟩) (Nat.le_refl _) (.bool true))
        have HT2 := hide (row_other (unhide HT) ⟨w.heap.size, r, none⟩ (by simp [Value.ownBlock]; omega) (.bool true))
        have HC2 : Hid (∀ j u, (ints (E r))[j]? = some u → (wr.setCell ⟨w.heap.size, r, none⟩ (.bool true)).cell? ⟨g2, j, none⟩ = some u) := by
          intro j u hu
          rw [World.cell?_setCell_other _ _ _ _ (by simp)]
          exact ((unhide HB).cell (p := ⟨g2, j, none⟩) hg2l).trans (row_cells he j u hu)
        have hsz : (wr.setCell ⟨w.heap.size, r, none⟩ (.bool true)).heap.size = wr.heap.size := size_setCell _ _ _
        obtain ⟨EL, hEL⟩ : ∃ EL, (E r).length = EL := ⟨_, rfl⟩
        rw [hEL] at ce1 hEr
        clear htl ce he HT HO
        go_wp2_with (at_builtin; refine wpList_append_own _ rfl (.tmp 35) (.tmp 39) 40 rfl (w.heap.size + 1) 3 i3 (.int .i64 0) 1 8 Ybaf.underlying40 hi3 z3a z3b z3c rfl (by decide) _ k _ rfl (unhide HT2) ⟨g2, 0, none⟩ EL c2 (ints (E r)) rfl (by simp [hEL]) ?hcn ?h1 ?c3 ?c4 ?c5 ?_)
        case hcn =>
          intro j u hu
          rw [Addr.add_lit, Nat.zero_add]
          exact unhide HC2 j u hu
        case h1 =>
          intro u hu
          obtain ⟨k, _, rfl⟩ := List.mem_map.1 hu
          rfl
        case c3 => unfold maxLen; omega
        case c4 => omega
        case c5 => rw [hsz]; omega
        intro v3 w3 hown3 hgr3 _
        have HM3 : Hid (Blk w3 w.heap.size (bools (m.set r true)) 4) := hide ((hgr3.block _ (by rw [hsz]; have := (unhide HM).lt; omega) (by simp [Value.ownBlock]; omega)).trans (unhide HM2))
        have HB3 : Hid (Below w.heap.size w w3) := hide ((unhide HB2).grown hgr3 (by rw [hsz]; have := (unhide HM).lt; omega) (by intro k hk; simp [Value.ownBlock] at hk; omega))
        have HO3 := hide hown3
        clear hown3 hgr3 HM2 HB2 HT2 HC2
        go_wp2
        go_roundg (gk - 1)
        case measure => have := unhide HK; omega
        case rel =>
          have hms := marked_set hb
          have hml : marked (m.set r true) ≤ n := by have := marked_le (m.set r true); rw [List.length_set, (unhide HD).len] at this; exact this
          refine ⟨m.set r true, l ++ E r, (unhide HD).mark (unhide HE), hide ?_, hide ?_, hide ?_, HM3, HB3⟩
          · rw [List.length_append, hl, hEL]
            have := unhide HL; omega
          · rw [List.length_append, hl, hEL]
            have := unhide HK
            have e : n - marked m = (n - marked (m.set r true)) + 1 := by omega
            rw [e] at this; omega
          · have := unhide HO3
            rw [List.length_append, hl, hEL]
            simpa [ints, hl] using this
end Go.Proofs.YbulkblmiFmt
