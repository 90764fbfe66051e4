/-
  nextRound.
-/
import Derived.Test.YbulkblmiDoorNode
import Derived.Test.YbulkblmiDoorDel
import Derived.Deep.Cut
import Derived.Deep.CutRange
import Derived.Deep.CutBlock
namespace Go.Proofs.YbulkblmiDoor
open Go.RowKit

theorem orMapR {a b c : Prop} (h : a ∨ b) (f : b → c) : a ∨ c := by
  rcases h with h | h
  · exact .inl h
  · exact .inr (f h)


/-- What lies in memory when the round begins. -/
structure Laid (w : World) (pb fb eb rb ab gb grb nb k m gl mark gf pos : Nat) (next fr : Int) (inp : ByteArray) (seed : Value) (tir : Bool) (xs : List Value) (l : List (Nat × Bool)) (B : Nat) : Prop where
  hp : PB w pb ⟨.slice (some ⟨rb, 0, none⟩) 1 1, .string inp, .slice (some ⟨nb, 0, none⟩) m m, 0, .pointer none, .slice (some ⟨grb, 0, none⟩) gl gl, .slice (some ⟨gb, 0, none⟩) 2 2, 0, 0⟩
  hf : FB w fb (.pointer (some ⟨eb, 0, none⟩)) pos next mark
  hg : GB w gb pos seed fr tir true gf
  he : w.cell? ⟨eb, 7, none⟩ = some (.int .i64 0)
  hr0 : w.cell? ⟨rb, 0, none⟩ = some strR
  hr4 : w.cell? ⟨rb, 4, none⟩ = some (.slice (some ⟨ab, 0, none⟩) k k)
  hrow : w.ownsRow B 33 1 (.slice (some ⟨nb, 0, none⟩) m m) m xs
  hgr : GR w grb l
  hgl : l.length = gl
  hgf : gf ≤ gl
  hgk : gl ≤ 1024
  hm : m ≤ 5
  hmm : mark ≤ m
  hk : k ≤ 5
  hB : B ≤ w.heap.size
  hab : ab < nb
  hng : nb < grb
  hgrb : grb < rb
  hrg : rb < gb
  hgp : gb < pb
  hpe : pb < eb
  hef : eb < fb
  h1c : ∀ u ∈ xs, u.oneCell' = true

set_option maxRecDepth 100000 in
set_option maxHeartbeats 8000000 in
theorem nextRound_seed {w : World} {pb fb eb rb ab gb grb nb k m gl mark gf pos : Nat} {next fr : Int} {inp : ByteArray} {tir : Bool} {xs : List Value} {l : List (Nat × Bool)} {B : Nat} (sd : Nat) (ed se : Int) (ta : Bool)
    (h : Laid w pb fb eb rb ab gb grb nb k m gl mark gf pos next fr inp (.pointer (some ⟨sd, 0, none⟩)) tir xs l B) (hse : w.cell? ⟨sd, 2, none⟩ = some (.int .i64 se)) (hs1 : grb < sd) (hs2 : sd < rb) (hle : ed ≤ se) :
    Calls Ybad.prog 5 #[.pointer (some ⟨pb, 0, none⟩), .pointer (some ⟨fb, 0, none⟩), .int .i64 ed, .bool ta] w fun r w' => r = .returned (stepV (.pointer none) se true) ∧
      ∃ v, PB w' pb ⟨.slice (some ⟨rb, 0, none⟩) 1 1, .string inp, v, 0, .pointer none, .slice (some ⟨grb, 0, none⟩) gf gl, .slice (some ⟨gb, 0, none⟩) 1 2, 0, 0⟩ ∧
        w'.ownsRow B 33 1 v (mark + 1) (xs.take mark ++ [.pointer (some ⟨sd, 0, none⟩)]) ∧ Turns w w' (fun k => k = pb ∨ k = nb) := by
  obtain ⟨hp, hf, hg, he, hr0, hr4, hrow, hgr, hgl, hgf, hgk, hm, hmm, hk, hB, hab, hng, hgrb, hrg, hgp, hpe, hef, h1c⟩ := h
  have hpl := hp.lt
  have hfl := Blk.lt hf
  have hgbl := Blk.lt hg
  have hnl := ownsRow_block hrow
  have hP0 : PB _ pb _ := Blk.alloc hp (.cells #[.pointer none, .int .i64 0, .bool false] 73)
  have hF0 := Blk.alloc hf (.cells #[.pointer none, .int .i64 0, .bool false] 73)
  have hG0 := Blk.alloc hg (.cells #[.pointer none, .int .i64 0, .bool false] 73)
  have hE0 := Lib.cell?_alloc_some (.cells #[.pointer none, .int .i64 0, .bool false] 73) he
  have hQ0 := Lib.cell?_alloc_some (.cells #[.pointer none, .int .i64 0, .bool false] 73) hr4
  have hS0 := Lib.cell?_alloc_some (.cells #[.pointer none, .int .i64 0, .bool false] 73) hse
  have hR0 := hrow.alloc (.cells #[.pointer none, .int .i64 0, .bool false] 73)
  have hX0 := Blk.new w #[.pointer none, .int .i64 0, .bool false] 73
  have hT0 := (Turns.refl w (fun k => k = pb ∨ k = nb)).alloc (.cells #[.pointer none, .int .i64 0, .bool false] 73)
  obtain ⟨W0, hW0⟩ : ∃ W0, w.alloc (.cells #[.pointer none, .int .i64 0, .bool false] 73) = W0 := ⟨_, rfl⟩
  rw [hW0] at hP0 hF0 hG0 hE0 hQ0 hS0 hR0 hX0 hT0
  have hsz0 : W0.heap.size = w.heap.size + 1 := by rw [← hW0]; simp
  have HW0 := hide hW0
  have p0 := hP0.c0
  have p23 := hP0.c23
  have p5 := hP0.c5
  have z5 := hP0.frozen 5
  have f0 := FB.c0 hF0
  have f4 := FB.c4 hF0
  have g13 := GB.c13 hG0
  have HP0 := hide hP0
  have HF0 := hide hF0
  have HG0 := hide hG0
  have HR0 := hide hR0
  have HX0 := hide hX0
  have HT0 := hide hT0
  clear hp hf hg he hr0 hr4 hrow hgr h1c hse hP0 hF0 hG0 hR0 hX0 hT0 hW0
  go_enter Ybad.func5, Ybad.ntmps5
  go_wp2
  rw [unhide HW0]
  go_region
  go_wp2
  go_region
  have hP1 : PB _ pb _ := Blk.drew (Blk.drew ((unhide HP0).set5 (.slice (some ⟨nb, 0, none⟩) mark m)))
  have hF1 := (Blk.other (unhide HF0) ⟨pb, 5, none⟩ (.slice (some ⟨nb, 0, none⟩) mark m) (by show fb ≠ pb; omega)).drew.drew
  have hG1 := (Blk.other (unhide HG0) ⟨pb, 5, none⟩ (.slice (some ⟨nb, 0, none⟩) mark m) (by show gb ≠ pb; omega)).drew.drew
  have hX1 := (Blk.other (unhide HX0) ⟨pb, 5, none⟩ (.slice (some ⟨nb, 0, none⟩) mark m) (by show w.heap.size ≠ pb; omega)).drew.drew
  have hT1 := ((unhide HT0).setCell (p := ⟨pb, 5, none⟩) (.inl (.inl rfl)) (.slice (some ⟨nb, 0, none⟩) mark m)).drew.drew
  have hT01 := ((Turns.refl W0 (fun k => k = pb)).setCell (p := ⟨pb, 5, none⟩) (.inl rfl) (.slice (some ⟨nb, 0, none⟩) mark m)).drew.drew
  have hR1 := row_take (row_turns (unhide HR0) hT01 (fun k hk e => by simp [Value.ownBlock] at hk; omega)) hmm
  have hS1 := (hT01.cell (p := ⟨sd, 2, none⟩) (by show sd < _; omega) (by show ¬ sd = pb; omega)).trans hS0
  obtain ⟨W1, hW1⟩ : ∃ W1, (W0.setCell ⟨pb, 5, none⟩ (.slice (some ⟨nb, 0, none⟩) mark m)).drew.drew = W1 := ⟨_, rfl⟩
  rw [hW1] at hP1 hF1 hG1 hX1 hT1 hR1 hS1 ⊢
  have hsz1 : w.heap.size ≤ W1.heap.size := hT1.2.2.2.1
  have HP1 := hide hP1
  have HF1 := hide hF1
  have HG1 := hide hG1
  have HX1 := hide hX1
  have HT1 := hide hT1
  have HR1 := hide hR1
  have HS1 := hide hS1
  clear hW1 hP1 hF1 hG1 hX1 hT1 hT01 hR1 hS1 HP0 HF0 HG0 HR0 HX0 HT0 p0 p23 p5 z5 f0 f4 g13 hE0 hQ0 hS0
  go_wp2_with fail
  refine (endGrowth_calls pb fb B mark sd gb grb gl gf se pos next mark fr tir true _ _ (xs.take mark) W1 (unhide HP1) (unhide HF1) (unhide HG1) rfl rfl rfl rfl rfl hgf (unhide HR1) (by omega) (by omega) (unhide HS1) (by omega) (by simp [Value.ownBlock]; omega) (by simp [Value.ownBlock]; omega) (by omega)).mono ?_
  rintro r w3 ⟨rfl, v, hP3, hr3, hT3⟩
  have hT3' : Turns w w3 (fun k => k = pb ∨ k = nb) := (unhide HT1).trans (hT3.mono (fun k _ h => .inl (orMapR h (fun e => by simp [Value.ownBlock] at e; exact e.symm))))
  have hX3 : Blk w3 w.heap.size #[.pointer none, .int .i64 0, .bool false] 73 := Blk.turns (unhide HX1) hT3 (fun h => by simp [Value.ownBlock] at h; omega)
  have r0 := hX3.cell 0 rfl
  have r1 := hX3.cell 1 rfl
  have r2 := hX3.cell 2 rfl
  have z0 := hX3.frozen 0
  have z1 := hX3.frozen 1
  have z2 := hX3.frozen 2
  have HX := hide (res_end hX3 hP3 hpl hr3 hT3' (.pointer none) (.int .i64 se) (.bool true))
  clear hP3 hr3 hT3 hT3' hX3 HP1 HF1 HG1 HX1 HT1 HR1 HS1
  go_wp2
  obtain ⟨W4, hW4, c0, c1, c2, hP4, hr4, hT4⟩ := unhide HX
  rw [hW4]
  clear r0 r1 r2 z0 z1 z2 HX hW4
  simp [bodyPost, results, go_sem, c0, c1, c2]
  exact ⟨_, hP4, hr4, hT4⟩
end Go.Proofs.YbulkblmiDoor
