/-
  slices.Clone at the nodes; node: the node of a match.
-/
import Derived.Test.YbulkblmiDoorGrow
namespace Go.Proofs.YbulkblmiDoor
open Go.RowKit

set_option maxRecDepth 100000 in
theorem clone_calls (nb off n c : Nat) (ys : List Value) (w : World) (hn : ys.length = n) (hn0 : 0 < n) (hn10 : n ≤ 10) (hc : ∀ j u, ys[j]? = some u → w.cell? ⟨nb, off + j, none⟩ = some u) (h1 : ∀ u ∈ ys, u.oneCell' = true) :
    Calls Ybad.prog 20 #[.slice (some ⟨nb, off, none⟩) n c] w fun r w' => ∃ g c', r = .returned (.slice (some ⟨g, 0, none⟩) n c') ∧ w'.ownsRow w.heap.size 33 1 (.slice (some ⟨g, 0, none⟩) n c') n ys ∧ Below w.heap.size w w' := by
  obtain ⟨i0, hi, hz0, hz1, hz2⟩ := info_parts info33
  have hnil := fun w => Lib.run_eql_slice_nil (P := Ybad.prog) w 32 33 (some ⟨nb, off, none⟩) n c 0 0 Ybad.underlying32
  have HC := hide hc
  have H1 := hide h1
  clear hc h1
  go_enter Ybad.func20, Ybad.ntmps20
  go_wp2_with (at_builtin; refine wpList_append_own _ rfl (.tmp 5) (.tmp 6) 32 rfl w.heap.size 33 i0 (.pointer none) 1 8 Ybad.underlying32 hi hz0 hz1 hz2 rfl (by decide) _ 0 _ rfl (World.ownsRow_made w #[] 0 (Nat.le_refl _) (by decide) rfl) ⟨nb, off, none⟩ n c ys rfl (by omega) ?hcn (unhide H1) ?c3 ?c4 ?c5 ?_)
  case hcn =>
    intro j u hu
    rw [Addr.add_lit]
    exact Lib.cell?_alloc_some _ (unhide HC j u hu)
  case c3 => unfold maxLen; omega
  case c4 => omega
  case c5 => simp
  intro v' w1 hown hgrow _
  go_wp2
  go_ret
  obtain ⟨g, c', rfl⟩ : ∃ g c', v' = .slice (some ⟨g, 0, none⟩) n c' := by
    rcases hown.2 with ⟨_, h0⟩ | ⟨g, c', _, hv, _⟩
    · omega
    · exact ⟨g, c', by simpa using hv⟩
  refine ⟨g, c', rfl, by simpa using hown, ?_⟩
  exact Turns.to_below (T := fun k => k = w.heap.size) (((Turns.refl w _).alloc _).grown hgrow (fun k e => by simp [Value.ownBlock] at e; exact .inl e.symm)) (Nat.le_refl _) (fun k e => Nat.le_of_eq e.symm)

/-- A row cut short. -/
theorem row_take {w : World} {B m mark nb cap : Nat} {xs : List Value} (h : w.ownsRow B 33 1 (.slice (some ⟨nb, 0, none⟩) m cap) m xs) (hm : mark ≤ m) : w.ownsRow B 33 1 (.slice (some ⟨nb, 0, none⟩) mark cap) mark (xs.take mark) := by
  obtain ⟨hl, (⟨h, _⟩ | ⟨g', cap', cur, hv, hg, hgb, h1, h2, h3, h4⟩)⟩ := h
  · cases h
  · cases hv
    refine ⟨by simp; omega, .inr ⟨_, _, cur, rfl, hg, hgb, by omega, h2, h3, ?_⟩⟩
    rw [← h4, List.take_take]
    congr 1; omega
theorem row_cells {w : World} {B m nb cap : Nat} {xs : List Value} (h : w.ownsRow B 33 1 (.slice (some ⟨nb, 0, none⟩) m cap) m xs) (j : Nat) (u : Value) (hu : xs[j]? = some u) : w.cell? ⟨nb, j, none⟩ = some u := by
  obtain ⟨hl, (⟨h, _⟩ | ⟨g', cap', cur, hv, hg, hgb, h1, h2, h3, h4⟩)⟩ := h
  · cases h
  · cases hv
    refine Blk.cell hgb j ?_
    rw [← h4] at hu
    rw [← Array.getElem?_toList]
    rw [List.getElem?_take] at hu
    split at hu
    · exact hu
    · cases hu

theorem sn4 {w : World} {pb fb k : Nat} {u v x : Value} (hf : fb ≠ k) (h : w.cell? ⟨pb, 5, none⟩ = some u ∧ w.cell? ⟨fb, 4, none⟩ = some v) :
    (w.setCell ⟨k, 4, none⟩ x).cell? ⟨pb, 5, none⟩ = some u ∧ (w.setCell ⟨k, 4, none⟩ x).cell? ⟨fb, 4, none⟩ = some v :=
  ⟨(World.cell?_setCell_other _ _ _ _ (by simp)).trans h.1, (World.cell?_setCell_other _ _ _ _ (by simp only [ne_eq, Addr.mk.injEq, not_and]; exact fun e => absurd e.symm hf)).trans h.2⟩

theorem row_base {w : World} {B B' size n : Nat} {e : TypeId} {v : Value} {xs : List Value} (h : w.ownsRow B e size v n xs) (hb : B' ≤ B) : w.ownsRow B' e size v n xs := by
  obtain ⟨hl, (⟨h, h2⟩ | ⟨g', cap', cur, hv, hg, hrest⟩)⟩ := h
  · exact ⟨hl, .inl ⟨h, h2⟩⟩
  · exact ⟨hl, .inr ⟨g', cap', cur, hv, Nat.le_trans hb hg, hrest⟩⟩

abbrev strR : Value := .string { data := #[82] }

set_option maxRecDepth 100000 in
set_option maxHeartbeats 8000000 in
theorem node_calls (pb fb eb rb B m mark nb cap : Nat) (pos ed : Nat) (next : Int) (inp : ByteArray) (s : PS) (xs : List Value) (w : World) (hp : PB w pb s) (hf : FB w fb (.pointer (some ⟨eb, 0, none⟩)) pos next mark)
    (he : w.cell? ⟨eb, 7, none⟩ = some (.int .i64 0)) (hrs : s.rules = .slice (some ⟨rb, 0, none⟩) 1 1) (hr0 : w.cell? ⟨rb, 0, none⟩ = some strR) (hin : s.input = .string inp) (hpe : pos ≤ ed) (hei : ed ≤ inp.size) (hi40 : inp.size ≤ 40)
    (hnod : s.nodes = .slice (some ⟨nb, 0, none⟩) m cap) (hrow : w.ownsRow B 33 1 (.slice (some ⟨nb, 0, none⟩) m cap) m xs) (hmm : mark ≤ m) (hm : m ≤ 10) (hpr : pb ≠ nb) (hpf : pb ≠ fb) (h1c : ∀ u ∈ xs, u.oneCell' = true) :
    Calls Ybad.prog 12 #[.pointer (some ⟨pb, 0, none⟩), .pointer (some ⟨fb, 0, none⟩), .int .i64 ed] w fun r w' => ∃ g kids, r = .returned (.pointer (some ⟨g, 0, none⟩)) ∧ w.heap.size ≤ g ∧
      Blk w' g #[strR, .int .i64 pos, .int .i64 ed, .string (inp.extract pos ed), kids] 35 ∧ PB w' pb { s with nodes := .slice (some ⟨nb, 0, none⟩) mark cap } ∧ w'.ownsRow B 33 1 (.slice (some ⟨nb, 0, none⟩) mark cap) mark (xs.take mark) ∧
      ((m = mark ∧ kids = .slice none 0 0) ∨ (mark < m ∧ w'.ownsRow w.heap.size 33 1 kids (m - mark) (xs.drop mark))) ∧ Turns w w' (fun k => k = pb) := by
  obtain ⟨rules, input, nodes, fp, fi, grown, growing, sr, st⟩ := s
  simp only at *
  have hi41 : inp.size ≤ 40 := hi40
  subst hrs hin hnod
  have hpl := hp.lt
  have hfl := Blk.lt hf
  have hel := World.block_lt_of_cell? w _ he
  have hrl := World.block_lt_of_cell? w _ hr0
  have hnl := ownsRow_block hrow
  have hcap : m ≤ cap := by
    obtain ⟨_, (⟨h, _⟩ | ⟨_, _, _, hv, _, _, h1, _⟩)⟩ := hrow
    · cases h
    · cases hv; exact h1
  have p0 := hp.c0
  have p2 := hp.c2
  have p5 := hp.c5
  have f0 := hf.c0
  have f1 := hf.c1
  have f4 := hf.c4
  have HP := hide hp
  have HF := hide hf
  have HR := hide hrow
  have H1C := hide h1c
  clear hp hf hrow h1c
  go_enter Ybad.func12, Ybad.ntmps12
  go_wp2
  go_region
  have hP1 : PB _ pb _ := (Blk.alloc (unhide HP) (.cells #[strR, .int .i64 pos, .int .i64 ed, .string (inp.extract pos ed), .slice none 0 0] 35)).drew
  have hF1 := (Blk.alloc (unhide HF) (.cells #[strR, .int .i64 pos, .int .i64 ed, .string (inp.extract pos ed), .slice none 0 0] 35)).drew
  have hN1 := (Blk.new w #[strR, .int .i64 pos, .int .i64 ed, .string (inp.extract pos ed), .slice none 0 0] 35).drew
  have hT1 := ((Turns.refl w (fun k => k = pb)).alloc (.cells #[strR, .int .i64 pos, .int .i64 ed, .string (inp.extract pos ed), .slice none 0 0] 35)).drew
  have hR1 := row_turns (unhide HR) hT1 (fun k hk e => by simp [Value.ownBlock] at hk; omega)
  obtain ⟨W1, hW1⟩ : ∃ W1, (w.alloc (.cells #[strR, .int .i64 pos, .int .i64 ed, .string (inp.extract pos ed), .slice none 0 0] 35)).drew = W1 := ⟨_, rfl⟩
  rw [hW1] at hP1 hF1 hN1 hT1 hR1 ⊢
  have hsz1 : W1.heap.size = w.heap.size + 1 := by rw [← hW1]; show (w.alloc _).heap.size = _; simp
  clear hW1 HP HF HR p0 p2 p5 f0 f1 f4
  have p5 := hP1.c5
  have f4 := FB.c4 hF1
  have z5 := hP1.frozen 5
  have n4 := hN1.cell 4 rfl
  have zn4 := hN1.frozen 4
  have HP1 := hide hP1
  have HF1 := hide hF1
  have HN1 := hide hN1
  have HT1 := hide hT1
  have HR1 := hide hR1
  clear hP1 hF1 hN1 hT1 hR1
  rcases Nat.lt_or_ge mark m with hlt | hge
  · have HCN : Hid (∀ j u, (xs.drop mark)[j]? = some u → W1.cell? ⟨nb, mark + j, none⟩ = some u) := fun j u hu => row_cells (unhide HR1) _ u (by rwa [List.getElem?_drop] at hu)
    have HC1 : Hid (∀ u ∈ xs.drop mark, u.oneCell' = true) := fun u hu => unhide H1C u (List.mem_of_mem_drop hu)
    have hxl : xs.length = m := by have := (unhide HR1).1; omega
    have hdl : (xs.drop mark).length = m - mark := by simp [hxl]
    have hS : W1.cell? ⟨pb, 5, none⟩ = some (.slice (some ⟨nb, 0, none⟩) m cap) ∧ W1.cell? ⟨fb, 4, none⟩ = some (.int .i64 mark) := ⟨p5, f4⟩
    have hfw : fb ≠ w.heap.size := by omega
    have hcm : ¬ cap = mark := by omega
    go_wp2
    go_region
    go_wp2
    go_region_held3 (fun w' => w'.cell? ⟨pb, 5, none⟩ = some (.slice (some ⟨nb, 0, none⟩) m cap) ∧ w'.cell? ⟨fb, 4, none⟩ = some (.int .i64 mark)) (first | with_reducible assumption | (with_reducible refine sn4 hfw ?_; with_reducible assumption) | exact hS)
      (first | (go_at_call 20; refine (clone_calls nb mark (m - mark) (cap - mark) (xs.drop mark) W1.drew.drew hdl (by omega) (by omega) (unhide HCN) (unhide HC1)).mono ?_; rintro r w1 ⟨kb, kc, rfl, hk, hB1⟩; have hS1 : w1.cell? ⟨pb, 5, none⟩ = some (.slice (some ⟨nb, 0, none⟩) m cap) ∧ w1.cell? ⟨fb, 4, none⟩ = some (.int .i64 mark) := ⟨(hB1.cell (p := ⟨pb, 5, none⟩) (by show pb < W1.heap.size; omega)).trans p5, (hB1.cell (p := ⟨fb, 4, none⟩) (by show fb < W1.heap.size; omega)).trans f4⟩; have b1 : w1.frozen? ⟨w.heap.size, 4, none⟩ = false := (hB1.frozen (p := ⟨w.heap.size, 4, none⟩) (by show w.heap.size < W1.heap.size; omega)).trans zn4; have b2 : w1.cell? ⟨w.heap.size, 4, none⟩ = some (.slice none 0 0) := (hB1.cell (p := ⟨w.heap.size, 4, none⟩) (by show w.heap.size < W1.heap.size; omega)).trans n4;  have HB1 := hide hB1; have HK := hide hk; clear hB1 hk))
    have hB : Below W1.heap.size W1 w1 := ⟨(unhide HB1).os, (unhide HB1).tape, (unhide HB1).output, (unhide HB1).size, (unhide HB1).block⟩
    have hP2 : PB _ pb _ := (Blk.below (unhide HP1) hB).other ⟨w.heap.size, 4, none⟩ (.slice (some ⟨kb, 0, none⟩) (m - mark) kc) (by show pb ≠ w.heap.size; omega)
    have hF2 := (Blk.below (unhide HF1) hB).other ⟨w.heap.size, 4, none⟩ (.slice (some ⟨kb, 0, none⟩) (m - mark) kc) hfw
    have hN2 : Blk _ w.heap.size #[strR, .int .i64 pos, .int .i64 ed, .string (inp.extract pos ed), .slice (some ⟨kb, 0, none⟩) (m - mark) kc] 35 := (Blk.below (unhide HN1) hB).set 4 (.slice (some ⟨kb, 0, none⟩) (m - mark) kc)
    have hT2 := ((unhide HT1).below hB).setCell (p := ⟨w.heap.size, 4, none⟩) (.inr (Nat.le_refl _)) (.slice (some ⟨kb, 0, none⟩) (m - mark) kc)
    have hT12 := ((Turns.refl W1 (fun k => k = w.heap.size)).below hB).setCell (p := ⟨w.heap.size, 4, none⟩) (.inl rfl) (.slice (some ⟨kb, 0, none⟩) (m - mark) kc)
    have hR2 := row_turns (unhide HR1) hT12 (fun k hk e => by simp [Value.ownBlock] at hk; omega)
    have hK0 : W1.heap.size ≤ kb := (unhide HK).lt kb rfl |>.1
    have hK2 := row_other (unhide HK) ⟨w.heap.size, 4, none⟩ (by simp [Value.ownBlock]; omega) (.slice (some ⟨kb, 0, none⟩) (m - mark) kc)
    obtain ⟨W2, hW2⟩ : ∃ W2, w1.setCell ⟨w.heap.size, 4, none⟩ (.slice (some ⟨kb, 0, none⟩) (m - mark) kc) = W2 := ⟨_, rfl⟩
    rw [hW2] at hP2 hF2 hN2 hT2 hR2 hK2 ⊢
    have q5 := hP2.c5
    have g4 := FB.c4 hF2
    have zq5 := hP2.frozen 5
    have HP2 := hide hP2
    have HN2 := hide hN2
    have HT2 := hide hT2
    have HR2 := hide hR2
    have HK2 := hide hK2
    clear hW2 hP2 hF2 hN2 hT2 hT12 hR2 hK2 hB HP1 HF1 HN1 HT1 HR1 HK HB1 hS hS1 p5 f4 z5 n4 zn4 b1 b2 HCN HC1 H1C
    go_wp2
    go_region
    go_wp2
    go_ret
    refine ⟨w.heap.size, .slice (some ⟨kb, 0, none⟩) (m - mark) kc, rfl, Nat.le_refl _, ?_, ?_, ?_, .inr ⟨hlt, ?_⟩, ?_⟩
    · exact (Blk.other (unhide HN2) _ _ (by show w.heap.size ≠ pb; omega)).drew
    · exact (unhide HP2).set5 _
    · exact row_other (row_take (unhide HR2) hmm) ⟨pb, 5, none⟩ (by simp [Value.ownBlock]; omega) _
    · exact row_base (row_other (unhide HK2) ⟨pb, 5, none⟩ (by simp [Value.ownBlock]; omega) _) (by show w.heap.size ≤ W1.heap.size; omega)
    · exact ((unhide HT2).setCell (p := ⟨pb, 5, none⟩) (.inl rfl) _).drew
  · obtain rfl : mark = m := by omega
    go_wp2
    go_region
    go_wp2
    go_ret
    have hxl : xs.length = mark := by have := (unhide HR1).1; omega
    refine ⟨w.heap.size, rfl, Nat.le_refl _, _, (unhide HN1), (unhide HP1), ?_, rfl, (unhide HT1).drew⟩
    rw [List.take_of_length_le (by omega)]
    exact unhide HR1
end Go.Proofs.YbulkblmiDoor
