/-
  endGrowth: how a growth ends.
-/
import Derived.Test.YbulkblmiDoorEnd
namespace Go.Proofs.YbulkblmiDoor
open Go.RowKit

theorem endGrowth_mid {w W1 : World} {pb fb B m g gb grb gl gf : Nat} {e pos next mark : Int} {ev nodes rules input : Value} {st : Int} {gv : Array Value} {xs : List Value} {grown growing : Value}
    (HP1 : PB W1 pb ⟨rules, input, nodes, 0, .pointer none, grown, growing, 0, st⟩) (HF1 : FB W1 fb ev pos next mark) (hfb : fb ≠ pb) (HRES : Blk W1 w.heap.size #[.pointer none, .int .i64 0, .bool false] 73) (hpw : pb < w.heap.size)
    (HT1 : Turns w W1 (fun k => k = pb ∨ nodes.ownBlock = some k)) (HR1 : W1.ownsRow B 33 1 nodes m xs) (hpr : some pb ≠ nodes.ownBlock) (HG1 : W1.cell? ⟨g, 2, none⟩ = some (.int .i64 e)) (HC1 : Blk W1 (w.heap.size + 1) gv 49) :
    ∃ W2, (((W1.setCell ⟨pb, 24, none⟩ (.int .i64 0)).setCell ⟨pb, 23, none⟩ (.slice (some ⟨gb, 0, none⟩) 1 2)).setCell ⟨pb, 15, none⟩ (.slice (some ⟨grb, 0, none⟩) gf gl)).drew = W2 ∧
      PB W2 pb ⟨rules, input, nodes, 0, .pointer none, .slice (some ⟨grb, 0, none⟩) gf gl, .slice (some ⟨gb, 0, none⟩) 1 2, 0, st⟩ ∧ FB W2 fb ev pos next mark ∧ Blk W2 w.heap.size #[.pointer none, .int .i64 0, .bool false] 73 ∧
      Turns w W2 (fun k => k = pb ∨ nodes.ownBlock = some k) ∧ W2.ownsRow B 33 1 nodes m xs ∧ W2.cell? ⟨g, 2, none⟩ = some (.int .i64 e) ∧ W1.heap.size ≤ W2.heap.size ∧ Blk W2 (w.heap.size + 1) gv 49 := by
  refine ⟨_, rfl, ?_, ?_, ?_, ?_, ?_, ?_, ?_, ?_⟩
  · exact ((HP1.set24 0).set23 _).set15 _
  · exact ((Blk.other HF1 _ _ hfb).other _ _ hfb).other _ _ hfb
  · exact ((Blk.other HRES _ _ (by show w.heap.size ≠ pb; omega)).other _ _ (by show w.heap.size ≠ pb; omega)).other _ _ (by show w.heap.size ≠ pb; omega)
  · exact (((HT1.setCell (.inl (.inl rfl)) _).setCell (.inl (.inl rfl)) _).setCell (.inl (.inl rfl)) _).drew
  · exact row_turns (T := fun k => k = pb) HR1 ((((Turns.refl W1 (fun k => k = pb)).setCell (.inl rfl) _).setCell (.inl rfl) _).setCell (.inl rfl) _).drew (fun k hk e => hpr (by rw [hk, e]))
  · exact (World.cell?_setCell_other _ _ _ _ (by simp)).trans ((World.cell?_setCell_other _ _ _ _ (by simp)).trans ((World.cell?_setCell_other _ _ _ _ (by simp)).trans HG1))
  · show W1.heap.size ≤ (((W1.setCell _ _).setCell _ _).setCell _ _).heap.size
    simp only [size_setCell]; exact Nat.le_refl _
  · exact ((Blk.other HC1 _ _ (by show w.heap.size + 1 ≠ pb; omega)).other _ _ (by show w.heap.size + 1 ≠ pb; omega)).other _ _ (by show w.heap.size + 1 ≠ pb; omega)

set_option maxRecDepth 100000 in
set_option maxHeartbeats 8000000 in
theorem endGrowth_calls (pb fb B m g gb grb gl gf : Nat) (e pos next mark fr : Int) (tir po : Bool) (ev : Value) (s : PS) (xs : List Value) (w : World) (hp : PB w pb s) (hf : FB w fb ev pos next mark)
    (hgb : GB w gb pos (.pointer (some ⟨g, 0, none⟩)) fr tir po gf)
    (hsr : s.sr = 0) (hfp : s.fp = 0) (hfi : s.fi = .pointer none) (hgr' : s.growing = .slice (some ⟨gb, 0, none⟩) 2 2) (hgn : s.grown = .slice (some ⟨grb, 0, none⟩) gl gl) (hgf : gf ≤ gl)
    (hrow : w.ownsRow B 33 1 s.nodes m xs) (hB : B ≤ w.heap.size) (hm : m ≤ 10) (hg : w.cell? ⟨g, 2, none⟩ = some (.int .i64 e)) (hgp : g ≠ pb) (hgr : some g ≠ s.nodes.ownBlock) (hpr : some pb ≠ s.nodes.ownBlock) (hpf : pb ≠ fb) :
    Calls Ybad.prog 11 #[.pointer (some ⟨pb, 0, none⟩), .pointer (some ⟨fb, 0, none⟩)] w fun r w' => r = .returned (stepV (.pointer none) e true) ∧
      ∃ v, PB w' pb { s with nodes := v, growing := .slice (some ⟨gb, 0, none⟩) 1 2, grown := .slice (some ⟨grb, 0, none⟩) gf gl } ∧ w'.ownsRow B 33 1 v (m + 1) (xs ++ [.pointer (some ⟨g, 0, none⟩)]) ∧ Turns w w' (fun k => k = pb ∨ s.nodes.ownBlock = some k) := by
  obtain ⟨rules, input, nodes, fp, fi, grown, growing, sr, st⟩ := s
  simp only at *
  subst hsr hfp hfi hgr' hgn
  have hpl := hp.lt
  have hfl := Blk.lt hf
  have hgbl := Blk.lt hgb
  have hgl' := World.block_lt_of_cell? w _ hg
  have hbl : Hid _ := hide (ownBlock_lt hrow)
  have p23 := hp.c23
  have g11 := hgb.c11
  have g12 := hgb.c12
  have g13 := hgb.c13
  have g14 := hgb.c14
  have g15 := hgb.c15
  have g16 := hgb.c16
  have g17 := hgb.c17
  have g18 := hgb.c18
  have g19 := hgb.c19
  have g20 := hgb.c20
  have g21 := hgb.c21
  have HP := hide hp
  have HF := hide hf
  have HG := hide hg
  have HR := hide hrow
  clear hp hf hgb hg hrow
  go_enter Ybad.func11, Ybad.ntmps11
  go_wp2
  have hP1 := Blk.alloc (Blk.alloc (unhide HP) (.cells #[.pointer none, .int .i64 0, .bool false] 73)) (.cells #[.int .i64 0, .int .i64 pos, .pointer (some ⟨g, 0, none⟩), .int .i64 fr, .bool false, .bool tir, .bool po, .int .i64 0, .int .i64 gf, .bool false, .bool false] 49)
  have hF1 := Blk.alloc (Blk.alloc (unhide HF) (.cells #[.pointer none, .int .i64 0, .bool false] 73)) (.cells #[.int .i64 0, .int .i64 pos, .pointer (some ⟨g, 0, none⟩), .int .i64 fr, .bool false, .bool tir, .bool po, .int .i64 0, .int .i64 gf, .bool false, .bool false] 49)
  have hres1 := Blk.alloc (Blk.new w #[.pointer none, .int .i64 0, .bool false] 73) (.cells #[.int .i64 0, .int .i64 pos, .pointer (some ⟨g, 0, none⟩), .int .i64 fr, .bool false, .bool tir, .bool po, .int .i64 0, .int .i64 gf, .bool false, .bool false] 49)
  have hcp1 := Blk.new (w.alloc (.cells #[.pointer none, .int .i64 0, .bool false] 73)) #[.int .i64 0, .int .i64 pos, .pointer (some ⟨g, 0, none⟩), .int .i64 fr, .bool false, .bool tir, .bool po, .int .i64 0, .int .i64 gf, .bool false, .bool false] 49
  have hR1 := ((unhide HR).alloc (.cells #[.pointer none, .int .i64 0, .bool false] 73)).alloc (.cells #[.int .i64 0, .int .i64 pos, .pointer (some ⟨g, 0, none⟩), .int .i64 fr, .bool false, .bool tir, .bool po, .int .i64 0, .int .i64 gf, .bool false, .bool false] 49)
  have hT1 := ((Turns.refl w (fun k => k = pb ∨ nodes.ownBlock = some k)).alloc (.cells #[.pointer none, .int .i64 0, .bool false] 73)).alloc (.cells #[.int .i64 0, .int .i64 pos, .pointer (some ⟨g, 0, none⟩), .int .i64 fr, .bool false, .bool tir, .bool po, .int .i64 0, .int .i64 gf, .bool false, .bool false] 49)
  have hG1 := Lib.cell?_alloc_some (.cells #[.int .i64 0, .int .i64 pos, .pointer (some ⟨g, 0, none⟩), .int .i64 fr, .bool false, .bool tir, .bool po, .int .i64 0, .int .i64 gf, .bool false, .bool false] 49) (Lib.cell?_alloc_some (.cells #[.pointer none, .int .i64 0, .bool false] 73) (unhide HG))
  simp only [World.size_alloc] at hcp1
  obtain ⟨W1, hW1⟩ : ∃ W1, (w.alloc (.cells #[.pointer none, .int .i64 0, .bool false] 73)).alloc (.cells #[.int .i64 0, .int .i64 pos, .pointer (some ⟨g, 0, none⟩), .int .i64 fr, .bool false, .bool tir, .bool po, .int .i64 0, .int .i64 gf, .bool false, .bool false] 49) = W1 := ⟨_, rfl⟩
  rw [hW1] at hP1 hF1 hres1 hcp1 hR1 hT1 hG1 ⊢
  clear hW1 p23 g11 g12 g13 g14 g15 g16 g17 g18 g19 g20 g21 HP HF HG HR
  have hP1' : PB W1 pb _ := hP1
  have p23 := hP1'.c23
  have p15 := hP1'.c15
  have p24 := hP1'.c24
  have z23 := hP1'.frozen 23
  have z15 := hP1'.frozen 15
  have z24 := hP1'.frozen 24
  have k7 := hcp1.cell 7 rfl
  have k8 := hcp1.cell 8 rfl
  have k9 := hcp1.cell 9 rfl
  have k2 := hcp1.cell 2 rfl
  have HP1 := hide hP1'
  have HF1 := hide hF1
  have HRES1 := hide hres1
  have HR1 := hide hR1
  have HT1 := hide hT1
  have HG1 := hide hG1
  have HC1 := hide hcp1
  have hsz1 : w.heap.size ≤ W1.heap.size := hT1.2.2.2.1
  clear hP1 hP1' hF1 hres1 hcp1 hR1 hT1 hG1
  go_region
  obtain ⟨W2, hW2, hP2, hF2, hres2, hT2, hr2, hg2, hsz2, hc2⟩ := endGrowth_mid (gb := gb) (grb := grb) (gl := gl) (gf := gf) (unhide HP1) (unhide HF1) (fun e => hpf e.symm) (unhide HRES1) hpl (unhide HT1) (unhide HR1) hpr (unhide HG1) (unhide HC1)
  rw [hW2]
  have k9' := hc2.cell 9 rfl
  have k2' := hc2.cell 2 rfl
  have HP2 := hide hP2
  have HF2 := hide hF2
  have HRES2 := hide hres2
  have HT2 := hide hT2
  have HR2 := hide hr2
  have HG2 := hide hg2
  clear hP2 hF2 hres2 hT2 hr2 hg2 hW2 hc2 HP1 HF1 HRES1 HT1 HR1 HG1 HC1 p23 p15 p24 z23 z15 z24 k7 k8 k9 k2
  go_wp2_with fail
  refine (endCall_calls pb fb B m g gb 2 e pos next mark ev _ xs _ (unhide HP2) (unhide HF2) rfl rfl rfl rfl (unhide HR2) (by omega) hm (unhide HG2) hgp hgr hpr hpf).mono ?_
  rintro r w3 ⟨rfl, v, hP3, hr3, hT3⟩
  have hT3' : Turns w w3 (fun k => k = pb ∨ nodes.ownBlock = some k) := (unhide HT2).trans (hT3.mono (fun k _ h => .inl h))
  have hres3 : Blk w3 w.heap.size #[.pointer none, .int .i64 0, .bool false] 73 := Blk.turns (unhide HRES2) hT3 (fun h => h.elim (fun h => by omega) (fun h => Nat.lt_irrefl _ (unhide hbl _ h)))
  have r0 := hres3.cell 0 rfl
  have r1 := hres3.cell 1 rfl
  have r2 := hres3.cell 2 rfl
  have z0 := hres3.frozen 0
  have z1 := hres3.frozen 1
  have z2 := hres3.frozen 2
  have HX := hide (res_end hres3 hP3 hpl hr3 hT3' (.pointer none) (.int .i64 e) (.bool true))
  clear hP3 hr3 hT3 hT3' hres3 HP2 HF2 HRES2 HT2 HR2 HG2 k9' k2'
  go_wp2
  obtain ⟨W4, hW4, c0, c1, c2, hP4, hr4, hT4⟩ := unhide HX
  rw [hW4]
  clear r0 r1 r2 z0 z1 z2 HX hW4
  simp [bodyPost, results, go_sem, c0, c1, c2]
  exact ⟨_, hP4, hr4, hT4⟩
end Go.Proofs.YbulkblmiDoor
