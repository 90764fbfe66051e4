/-
  endCall, endGrowth: how a growth ends.
-/
import Derived.Test.YbulkblmiDoorBlocks
import Derived.Deep.RegionHeld3
namespace Go.Proofs.YbulkblmiDoor
open Go.RowKit

theorem join_keep (p i j : Option Addr) (fp gp : Int) (w : World) (h : fp < gp) :
    Calls Ybad.prog 28 #[.pointer p, .agg #[.int .i64 fp, .pointer i], .agg #[.int .i64 gp, .pointer j]] w fun r w' => r = .returned (.agg #[.int .i64 gp, .pointer j]) ∧ Below w.heap.size w w' := by
  refine (join_calls p i j fp gp w h).mono ?_
  rintro r w' ⟨rfl, rfl⟩
  exact ⟨rfl, (((Below.refl _ w).alloc (Nat.le_refl _) _).alloc (by simp) _).alloc (by simp; omega) _⟩

section
variable {pb fb : Nat} {w : World}
theorem se24 (h : w.cell? ⟨fb, 7, none⟩ = some (.int .i64 0) ∧ w.cell? ⟨pb, 24, none⟩ = some (.int .i64 0) ∧ w.cell? ⟨fb, 5, none⟩ = some (.int .i64 (-1)) ∧ w.cell? ⟨fb, 6, none⟩ = some (.pointer none) ∧ w.cell? ⟨pb, 7, none⟩ = some (.int .i64 0) ∧ w.cell? ⟨pb, 8, none⟩ = some (.pointer none)) :
    (w.setCell ⟨pb, 24, none⟩ (.int .i64 0)).cell? ⟨fb, 7, none⟩ = some (.int .i64 0) ∧ (w.setCell ⟨pb, 24, none⟩ (.int .i64 0)).cell? ⟨pb, 24, none⟩ = some (.int .i64 0) ∧ (w.setCell ⟨pb, 24, none⟩ (.int .i64 0)).cell? ⟨fb, 5, none⟩ = some (.int .i64 (-1)) ∧ (w.setCell ⟨pb, 24, none⟩ (.int .i64 0)).cell? ⟨fb, 6, none⟩ = some (.pointer none) ∧ (w.setCell ⟨pb, 24, none⟩ (.int .i64 0)).cell? ⟨pb, 7, none⟩ = some (.int .i64 0) ∧ (w.setCell ⟨pb, 24, none⟩ (.int .i64 0)).cell? ⟨pb, 8, none⟩ = some (.pointer none) := by
  obtain ⟨a1, a2, a3, a4, a5, a6⟩ := h
  exact ⟨(World.cell?_setCell_other _ _ _ _ (by simp)).trans a1, World.cell?_setCell_same _ _ _ a2, (World.cell?_setCell_other _ _ _ _ (by simp)).trans a3, (World.cell?_setCell_other _ _ _ _ (by simp)).trans a4, (World.cell?_setCell_other _ _ _ _ (by simp)).trans a5, (World.cell?_setCell_other _ _ _ _ (by simp)).trans a6⟩
theorem se7 (hpf : pb ≠ fb) (h : w.cell? ⟨fb, 7, none⟩ = some (.int .i64 0) ∧ w.cell? ⟨pb, 24, none⟩ = some (.int .i64 0) ∧ w.cell? ⟨fb, 5, none⟩ = some (.int .i64 (-1)) ∧ w.cell? ⟨fb, 6, none⟩ = some (.pointer none) ∧ w.cell? ⟨pb, 7, none⟩ = some (.int .i64 0) ∧ w.cell? ⟨pb, 8, none⟩ = some (.pointer none)) :
    ((w.setCell ⟨pb, 7, none⟩ (.int .i64 0)).setCell ⟨pb, 8, none⟩ (.pointer none)).cell? ⟨fb, 7, none⟩ = some (.int .i64 0) ∧ ((w.setCell ⟨pb, 7, none⟩ (.int .i64 0)).setCell ⟨pb, 8, none⟩ (.pointer none)).cell? ⟨pb, 24, none⟩ = some (.int .i64 0) ∧ ((w.setCell ⟨pb, 7, none⟩ (.int .i64 0)).setCell ⟨pb, 8, none⟩ (.pointer none)).cell? ⟨fb, 5, none⟩ = some (.int .i64 (-1)) ∧ ((w.setCell ⟨pb, 7, none⟩ (.int .i64 0)).setCell ⟨pb, 8, none⟩ (.pointer none)).cell? ⟨fb, 6, none⟩ = some (.pointer none) ∧ ((w.setCell ⟨pb, 7, none⟩ (.int .i64 0)).setCell ⟨pb, 8, none⟩ (.pointer none)).cell? ⟨pb, 7, none⟩ = some (.int .i64 0) ∧ ((w.setCell ⟨pb, 7, none⟩ (.int .i64 0)).setCell ⟨pb, 8, none⟩ (.pointer none)).cell? ⟨pb, 8, none⟩ = some (.pointer none) := by
  obtain ⟨a1, a2, a3, a4, a5, a6⟩ := h
  have o : ∀ (b i : Nat) (v : Value), (b ≠ pb ∨ (i ≠ 7 ∧ i ≠ 8)) → w.cell? ⟨b, i, none⟩ = some v → ((w.setCell ⟨pb, 7, none⟩ (.int .i64 0)).setCell ⟨pb, 8, none⟩ (.pointer none)).cell? ⟨b, i, none⟩ = some v := fun b i v hne hv =>
    (World.cell?_setCell_other _ _ _ _ (by simp; omega)).trans ((World.cell?_setCell_other _ _ _ _ (by simp; omega)).trans hv)
  have hpf' : fb ≠ pb := fun e => hpf e.symm
  exact ⟨o _ _ _ (.inl hpf') a1, o _ _ _ (.inr ⟨by decide, by decide⟩) a2, o _ _ _ (.inl hpf') a3, o _ _ _ (.inl hpf') a4, (World.cell?_setCell_other _ _ _ _ (by simp)).trans (World.cell?_setCell_same _ _ _ a5), World.cell?_setCell_same _ _ _ ((World.cell?_setCell_other _ _ _ _ (by simp)).trans a6)⟩
end

/-- The result's box, written: what stands. -/
theorem res_end {w W3 : World} {pb B m : Nat} {s : PS} {v : Value} {xs : List Value} {T : Nat → Prop} (hres : Blk W3 w.heap.size #[.pointer none, .int .i64 0, .bool false] 73) (hP3 : PB W3 pb s) (hpw : pb < w.heap.size) (hr3 : W3.ownsRow B 33 1 v (m + 1) xs) (hT3 : Turns w W3 T) (x y z : Value) :
    ∃ W4, ((W3.setCell ⟨w.heap.size, 0, none⟩ x).setCell ⟨w.heap.size, 1, none⟩ y).setCell ⟨w.heap.size, 2, none⟩ z = W4 ∧ W4.cell? ⟨w.heap.size, 0, none⟩ = some x ∧ W4.cell? ⟨w.heap.size, 1, none⟩ = some y ∧ W4.cell? ⟨w.heap.size, 2, none⟩ = some z ∧ PB W4 pb s ∧ W4.ownsRow B 33 1 v (m + 1) xs ∧ Turns w W4 T := by
  have h4 := ((hres.set 0 x).set 1 y).set 2 z
  refine ⟨_, rfl, h4.cell 0 rfl, h4.cell 1 rfl, h4.cell 2 rfl, ?_, ?_, ?_⟩
  · exact ((Blk.other hP3 _ _ (by show pb ≠ w.heap.size; omega)).other _ _ (by show pb ≠ w.heap.size; omega)).other _ _ (by show pb ≠ w.heap.size; omega)
  · obtain ⟨g', cap', rfl⟩ := ownsRow_succ hr3
    have hne := row_ne hres hr3 (by decide)
    exact ownsRow_other (ownsRow_other (ownsRow_other hr3 ⟨w.heap.size, 0, none⟩ hne x) ⟨w.heap.size, 1, none⟩ hne y) ⟨w.heap.size, 2, none⟩ hne z
  · exact ((hT3.setCell (p := ⟨w.heap.size, 0, none⟩) (.inr (Nat.le_refl _)) x).setCell (p := ⟨w.heap.size, 1, none⟩) (.inr (Nat.le_refl _)) y).setCell (p := ⟨w.heap.size, 2, none⟩) (.inr (Nat.le_refl _)) z

/-- What stands behind the stores of endCall's two fields. -/
theorem endCall_mid {w W0 w1 : World} {pb fb B m g : Nat} {e pos next mark : Int} {ev nodes : Value} {s : PS} {xs : List Value} (HP0 : PB W0 pb s) (hsr : s.sr = 0) (hfp : s.fp = 0) (hfi : s.fi = .pointer none) (HF0 : FB W0 fb ev pos next mark) (hfb : fb ≠ pb)
    (HRES : Blk W0 w.heap.size #[.pointer none, .int .i64 0, .bool false] 73) (hpw : pb < w.heap.size) (HT0 : Turns w W0 (fun k => k = pb ∨ nodes.ownBlock = some k)) (HR0 : W0.ownsRow B 33 1 nodes m xs) (hpr : some pb ≠ nodes.ownBlock)
    (HG0 : W0.cell? ⟨g, 2, none⟩ = some (.int .i64 e)) (HB1 : Below W0.heap.size W0 w1) :
    ∃ W2, ((w1.setCell ⟨pb, 24, none⟩ (.int .i64 0)).setCell ⟨pb, 7, none⟩ (.int .i64 0)).setCell ⟨pb, 8, none⟩ (.pointer none) = W2 ∧ PB W2 pb s ∧ FB W2 fb ev pos next mark ∧ Blk W2 w.heap.size #[.pointer none, .int .i64 0, .bool false] 73 ∧
      Turns w W2 (fun k => k = pb ∨ nodes.ownBlock = some k) ∧ W2.ownsRow B 33 1 nodes m xs ∧ W2.cell? ⟨g, 2, none⟩ = some (.int .i64 e) ∧ W0.heap.size ≤ W2.heap.size := by
  refine ⟨_, rfl, ?_, ?_, ?_, ?_, ?_, ?_, ?_⟩
  · have := (((show PB w1 pb s from Blk.below HP0 HB1).set24 0).set7 0).set8 (.pointer none)
    obtain ⟨rules, input, nodes, fp, fi, grown, growing, sr, st⟩ := s
    subst hsr hfp hfi
    exact this
  · exact ((((Blk.below HF0 HB1).other _ _ hfb).other _ _ hfb).other _ _ hfb)
  · exact ((((Blk.below HRES HB1).other _ _ (by show _ ≠ pb; omega)).other _ _ (by show _ ≠ pb; omega)).other _ _ (by show _ ≠ pb; omega))
  · exact (((HT0.below HB1).setCell (.inl (.inl rfl)) _).setCell (.inl (.inl rfl)) _).setCell (.inl (.inl rfl)) _
  · have h1 : w1.ownsRow B 33 1 nodes m xs := row_turns HR0 (T := fun _ => False) ((Turns.refl W0 _).below HB1) (fun _ _ h => h)
    exact row_other (row_other (row_other h1 _ hpr _) _ hpr _) _ hpr _
  · exact (World.cell?_setCell_other _ _ _ _ (by simp)).trans ((World.cell?_setCell_other _ _ _ _ (by simp)).trans ((World.cell?_setCell_other _ _ _ _ (by simp)).trans ((HB1.cell (p := ⟨g, 2, none⟩) (World.block_lt_of_cell? W0 _ HG0)).trans HG0)))
  · simp only [size_setCell]; exact HB1.size

set_option maxRecDepth 100000 in
set_option maxHeartbeats 8000000 in
theorem endCall_calls (pb fb B m g gb gc : Nat) (e pos next mark : Int) (ev : Value) (s : PS) (xs : List Value) (w : World) (hp : PB w pb s) (hf : FB w fb ev pos next mark)
    (hsr : s.sr = 0) (hfp : s.fp = 0) (hfi : s.fi = .pointer none) (hgr' : s.growing = .slice (some ⟨gb, 0, none⟩) 1 gc)
    (hrow : w.ownsRow B 33 1 s.nodes m xs) (hB : B ≤ w.heap.size) (hm : m ≤ 10) (hg : w.cell? ⟨g, 2, none⟩ = some (.int .i64 e)) (hgp : g ≠ pb) (hgr : some g ≠ s.nodes.ownBlock) (hpr : some pb ≠ s.nodes.ownBlock) (hpf : pb ≠ fb) :
    Calls Ybad.prog 19 #[.pointer (some ⟨pb, 0, none⟩), .pointer (some ⟨fb, 0, none⟩), .pointer (some ⟨g, 0, none⟩)] w fun r w' => r = .returned (stepV (.pointer none) e true) ∧
      ∃ v, PB w' pb { s with nodes := v } ∧ w'.ownsRow B 33 1 v (m + 1) (xs ++ [.pointer (some ⟨g, 0, none⟩)]) ∧ Turns w w' (fun k => k = pb ∨ s.nodes.ownBlock = some k) := by
  obtain ⟨rules, input, nodes, fp, fi, grown, growing, sr, st⟩ := s
  simp only at *
  subst hsr hfp hfi hgr'
  have hP0 : PB (w.alloc (.cells #[.pointer none, .int .i64 0, .bool false] 73)) pb ⟨rules, input, nodes, 0, .pointer none, grown, .slice (some ⟨gb, 0, none⟩) 1 gc, 0, st⟩ := (Below.heap_alloc _ _ pb hp.lt).trans hp
  have hF0 : FB (w.alloc (.cells #[.pointer none, .int .i64 0, .bool false] 73)) fb ev pos next mark := Blk.alloc hf _
  have hres : Blk (w.alloc (.cells #[.pointer none, .int .i64 0, .bool false] 73)) w.heap.size #[.pointer none, .int .i64 0, .bool false] 73 := Blk.new _ _ _
  have hpl := hp.lt
  have hfl := Blk.lt hf
  have hgl := World.block_lt_of_cell? w _ hg
  have hbl : Hid _ := hide (ownBlock_lt hrow)
  obtain ⟨W0, hW0⟩ : ∃ W0, w.alloc (.cells #[.pointer none, .int .i64 0, .bool false] 73) = W0 := ⟨_, rfl⟩
  have hT0 : Turns w W0 (fun k => k = pb ∨ nodes.ownBlock = some k) := by rw [← hW0]; exact (Turns.refl w _).alloc _
  have hr0 : W0.ownsRow B 33 1 nodes m xs := by rw [← hW0]; exact hrow.alloc _
  have hg0 : W0.cell? ⟨g, 2, none⟩ = some (.int .i64 e) := by rw [← hW0]; exact (World.cell?_of_block (a := ⟨g, 2, none⟩) (Below.heap_alloc _ _ g hgl)).trans hg
  have hsz0 : W0.heap.size = w.heap.size + 1 := by rw [← hW0]; simp
  rw [hW0] at hP0 hF0 hres
  have HW0 := hide hW0
  have p7 := hP0.c7
  have p8 := hP0.c8
  have p23 := hP0.c23
  have p24 := hP0.c24
  have f1 := hF0.c1
  have f5 := hF0.c5
  have f6 := hF0.c6
  have f7 := hF0.c7
  have HP0 := hide hP0
  have HF0 := hide hF0
  have HRES := hide hres
  have HT0 := hide hT0
  have HR0 := hide hr0
  have HG0 := hide hg0
  clear hP0 hF0 hres hT0 hr0 hp hf hrow hW0 hg hg0
  go_enter Ybad.func19, Ybad.ntmps19
  go_wp2
  rw [unhide HW0]
  go_region
  go_wp2
  have hpl0 : pb < W0.heap.size := by omega
  have hfl0 : fb < W0.heap.size := by omega
  have hgl0 : g < W0.heap.size := by omega
  have hS : W0.cell? ⟨fb, 7, none⟩ = some (.int .i64 0) ∧ W0.cell? ⟨pb, 24, none⟩ = some (.int .i64 0) ∧ W0.cell? ⟨fb, 5, none⟩ = some (.int .i64 (-1)) ∧ W0.cell? ⟨fb, 6, none⟩ = some (.pointer none) ∧ W0.cell? ⟨pb, 7, none⟩ = some (.int .i64 0) ∧ W0.cell? ⟨pb, 8, none⟩ = some (.pointer none) := ⟨f7, p24, f5, f6, p7, p8⟩
  have hfp' : fb ≠ pb := fun e => hpf e.symm
  have fz7 := (unhide HP0).frozen 7
  have fz8 := (unhide HP0).frozen 8
  have fz24 := (unhide HP0).frozen 24
  go_region_held3 (fun w' => w'.cell? ⟨fb, 7, none⟩ = some (.int .i64 0) ∧ w'.cell? ⟨pb, 24, none⟩ = some (.int .i64 0) ∧ w'.cell? ⟨fb, 5, none⟩ = some (.int .i64 (-1)) ∧ w'.cell? ⟨fb, 6, none⟩ = some (.pointer none) ∧ w'.cell? ⟨pb, 7, none⟩ = some (.int .i64 0) ∧ w'.cell? ⟨pb, 8, none⟩ = some (.pointer none)) (first | with_reducible assumption | (with_reducible refine se24 ?_; with_reducible assumption) | (with_reducible refine se7 hpf ?_; with_reducible assumption) | exact hS)
    (first | (go_at_call 28; refine (join_keep _ _ _ (-1) 0 _ (by decide)).mono ?_; rintro r w1 ⟨rfl, hB1⟩; have hS1 : w1.cell? ⟨fb, 7, none⟩ = some (.int .i64 0) ∧ w1.cell? ⟨pb, 24, none⟩ = some (.int .i64 0) ∧ w1.cell? ⟨fb, 5, none⟩ = some (.int .i64 (-1)) ∧ w1.cell? ⟨fb, 6, none⟩ = some (.pointer none) ∧ w1.cell? ⟨pb, 7, none⟩ = some (.int .i64 0) ∧ w1.cell? ⟨pb, 8, none⟩ = some (.pointer none) := ⟨(hB1.cell (p := ⟨fb, 7, none⟩) hfl0).trans f7, (hB1.cell (p := ⟨pb, 24, none⟩) hpl0).trans p24, (hB1.cell (p := ⟨fb, 5, none⟩) hfl0).trans f5, (hB1.cell (p := ⟨fb, 6, none⟩) hfl0).trans f6, (hB1.cell (p := ⟨pb, 7, none⟩) hpl0).trans p7, (hB1.cell (p := ⟨pb, 8, none⟩) hpl0).trans p8⟩; have b1 : w1.frozen? ⟨pb, 24, none⟩ = false := (hB1.frozen (p := ⟨pb, 24, none⟩) hpl0).trans fz24; have b2 : w1.frozen? ⟨pb, 7, none⟩ = false := (hB1.frozen (p := ⟨pb, 7, none⟩) hpl0).trans fz7; have b3 : w1.frozen? ⟨pb, 8, none⟩ = false := (hB1.frozen (p := ⟨pb, 8, none⟩) hpl0).trans fz8; have HB1 := hide hB1; clear hB1))
  all_goals
    obtain ⟨W2, hW2, hP2, hF2, hres2, hT2, hr2, hg2, hsz2⟩ := endCall_mid (unhide HP0) rfl rfl rfl (unhide HF0) hfp' (unhide HRES) hpl (unhide HT0) (unhide HR0) hpr (unhide HG0) ⟨(unhide HB1).os, (unhide HB1).tape, (unhide HB1).output, (unhide HB1).size, (unhide HB1).block⟩
    rw [hW2]
    have q1 := hF2.c1
    have HP2 := hide hP2
    have HRES2 := hide hres2
    have HT2 := hide hT2
    have HR2 := hide hr2
    have HG2 := hide hg2
    clear hP2 hF2 hres2 hT2 hr2 hg2 hW2 HP0 HF0 HRES HT0 HR0 HG0 p7 p8 p23 p24 f1 f5 f6 f7 fz7 fz8 fz24 hS HB1 b1 b2 b3 hS1
    go_wp2_with fail
    refine (called_calls pb B m g e pos _ xs _ (unhide HP2) (unhide HR2) (by omega) hm (unhide HG2) hgp hgr hpr).mono ?_
    rintro r w3 ⟨rfl, v, hP3, hr3, hT3⟩
    have hT3' : Turns w w3 (fun k => k = pb ∨ nodes.ownBlock = some k) := (unhide HT2).trans (hT3.mono (fun k _ h => .inl h))
    have hres3 : Blk w3 w.heap.size #[.pointer none, .int .i64 0, .bool false] 73 := Blk.turns (unhide HRES2) hT3 (fun h => h.elim (fun h => by omega) (fun h => Nat.lt_irrefl _ (unhide hbl _ h)))
    have r0 := hres3.cell 0 rfl
    have r1 := hres3.cell 1 rfl
    have r2 := hres3.cell 2 rfl
    have z0 := hres3.frozen 0
    have z1 := hres3.frozen 1
    have z2 := hres3.frozen 2
    have HX := hide (res_end hres3 hP3 hpl hr3 hT3' (.pointer none) (.int .i64 e) (.bool true))
    clear hP3 hr3 hT3 hT3' hres3 HP2 HRES2 HT2 HR2 HG2 q1
    go_wp2
    obtain ⟨W4, hW4, c0, c1, c2, hP4, hr4, hT4⟩ := unhide HX
    rw [hW4]
    clear r0 r1 r2 z0 z1 z2 HX hW4
    simp [bodyPost, results, go_sem, c0, c1, c2]
    exact ⟨_, hP4, hr4, hT4⟩
end Go.Proofs.YbulkblmiDoor
