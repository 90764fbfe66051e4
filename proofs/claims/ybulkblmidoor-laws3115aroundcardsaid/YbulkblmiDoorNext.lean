/-
  nextRound: the match grows.
-/
import Derived.Test.YbulkblmiDoorRound
namespace Go.Proofs.YbulkblmiDoor
open Go.RowKit

theorem orMapN {a b c : Prop} (h : a ∨ b) (f : b → c) : a ∨ c := by
  rcases h with h | h
  · exact .inl h
  · exact .inr (f h)


/-- DeleteFunc at the results from gf on. -/
theorem delete_tail (grb gf gl : Nat) (l : List (Nat × Bool)) (w : World) (hG : GR w grb l) (hl : l.length = gl) (hgf : gf ≤ gl) (hgk : gl ≤ 1024) :
    Calls Ybad.prog 13 #[.slice (if gl = gf then some ⟨grb, 0, none⟩ else some ⟨grb, gf * 6, none⟩) (gl - gf) (gl - gf), .func (.func 14) #[] #[]] w fun e w' => (∃ ao, e = .returned (.slice ao (kept (l.drop gf)).length (gl - gf))) ∧
      ∃ l', GR w' grb l' ∧ l'.length = l.length ∧ l'.take (gf + (kept (l.drop gf)).length) = l.take gf ++ kept (l.drop gf) ∧ Turns w w' (fun k => k = grb) := by
  by_cases h : gl = gf
  · rw [if_pos h]
    have hk : l.drop gf = [] := List.drop_eq_nil_of_le (by omega)
    rw [hk, show gl - gf = 0 by omega]
    refine (delete_zero _ w).mono ?_
    rintro e w' ⟨rfl, hB⟩
    refine ⟨⟨_, rfl⟩, l, hG.turns (T := fun _ => False) ((Turns.refl w _).below hB) (fun h => h), rfl, by simp [kept], (Turns.refl w _).below hB⟩
  · rw [if_neg h, Nat.mul_comm gf 6]
    exact (delete_calls grb gf (gl - gf) l w hG (by omega) (by omega)).mono (fun e w' h => ⟨⟨_, h.1⟩, h.2⟩)

/-- What stands when the next round is begun. -/
theorem next_end {w wc W7 W0 : World} {pb fb gb grb nb g B m mark : Nat} {fi : Array Value} {kids x pv : Value} {s : PS} {cn gc fc : Array Value} {ys ws : List Value} {l' : List (Nat × Bool)}
    (hX7 : Blk W7 w.heap.size fi 73) (hfi : fi = #[.pointer none, .int .i64 0, .bool false]) (hP7 : PB W7 pb s) (hG7 : Blk W7 gb gc 49) (hF7 : Blk W7 fb fc 71) (hT47 : Turns wc W7 (fun k => k = pb ∨ k = gb ∨ k = fb)) (hN4 : Blk wc g cn 35) (hR4 : wc.ownsRow B 33 1 (.slice (some ⟨nb, 0, none⟩) mark m) mark ys)
    (hK4 : (m = mark ∧ kids = .slice none 0 0) ∨ (mark < m ∧ wc.ownsRow W0.heap.size 33 1 kids (m - mark) ws)) (hL4 : GR wc grb l') (hTT4 : Turns w wc (fun k => k = pb ∨ k = gb ∨ k = grb ∨ k = fb))
    (hW0 : W0.heap.size = w.heap.size + 1) (hgw : W0.heap.size ≤ g) (h1 : nb < grb) (h2 : grb < gb) (h3 : gb < pb) (h4 : pb < fb) (h5 : fb < w.heap.size) :
    ∃ W8, (((W7.setCell ⟨w.heap.size, 0, none⟩ x).setCell ⟨w.heap.size, 1, none⟩ pv).setCell ⟨w.heap.size, 2, none⟩ (.bool false)).drew = W8 ∧ W8.cell? ⟨w.heap.size, 0, none⟩ = some x ∧ W8.cell? ⟨w.heap.size, 1, none⟩ = some pv ∧ W8.cell? ⟨w.heap.size, 2, none⟩ = some (.bool false) ∧
      PB W8 pb s ∧ Blk W8 gb gc 49 ∧ Blk W8 fb fc 71 ∧ Blk W8 g cn 35 ∧ W8.ownsRow B 33 1 (.slice (some ⟨nb, 0, none⟩) mark m) mark ys ∧ ((m = mark ∧ kids = .slice none 0 0) ∨ (mark < m ∧ W8.ownsRow w.heap.size 33 1 kids (m - mark) ws)) ∧ GR W8 grb l' ∧ Turns w W8 (fun k => k = pb ∨ k = gb ∨ k = grb ∨ k = fb) := by
  subst hfi
  have h8 := (((hX7.set 0 x).set 1 pv).set 2 (.bool false)).drew
  have hT8 := ((((Turns.refl W7 (fun k => k = w.heap.size)).setCell (p := ⟨w.heap.size, 0, none⟩) (.inl rfl) x).setCell (p := ⟨w.heap.size, 1, none⟩) (.inl rfl) pv).setCell (p := ⟨w.heap.size, 2, none⟩) (.inl rfl) (.bool false)).drew
  have hT48 : Turns wc _ (fun k => k = pb ∨ k = gb ∨ k = fb ∨ k = w.heap.size) := (hT47.mono (fun k _ h => by omega)).trans (hT8.mono (fun k _ h => .inl (.inr (.inr (.inr h)))))
  refine ⟨_, rfl, h8.cell 0 rfl, h8.cell 1 rfl, h8.cell 2 rfl, hT8.pb hP7 (by omega), hG7.turns hT8 (by omega), hF7.turns hT8 (by omega), hN4.turns hT48 (by omega), row_turns hR4 hT48 (fun k hk e => by simp [Value.ownBlock] at hk; omega), ?_, hL4.turns hT48 (by omega), hTT4.trans (hT48.mono (fun k _ h => by omega))⟩
  exact orMapN hK4 (fun ⟨a, b⟩ => ⟨a, row_base (row_turns b hT48 (fun k hk e => by have h0 : W0.heap.size ≤ k := (b.lt k hk).1; omega)) (by omega)⟩)

set_option maxRecDepth 100000 in
set_option maxHeartbeats 8000000 in
theorem nextRound_grows {w : World} {pb fb eb rb ab gb grb nb k m gl mark gf pos : Nat} {next fr : Int} {inp : ByteArray} {seed : Value} {tir : Bool} {xs : List Value} {l : List (Nat × Bool)} {B : Nat} (ed nf x : Nat) (ta : Bool)
    (h : Laid w pb fb eb rb ab gb grb nb k m gl mark gf pos next fr inp seed tir xs l B)
    (hseed : seed = .pointer none ∨ ∃ (sd : Nat) (se : Int), seed = .pointer (some ⟨sd, 0, none⟩) ∧ w.cell? ⟨sd, 2, none⟩ = some (.int .i64 se) ∧ se < ed)
    (hnf : (nf : Int) = if tir then fr else if ta then next + 1 else k) (hnk : nf ≤ k) (hpd : pos ≤ ed) (hei : ed ≤ inp.size) (hi40 : inp.size ≤ 40) (halt : nf < k → w.cell? ⟨ab, nf, none⟩ = some (.pointer (some ⟨x, 0, none⟩))) :
    Calls Ybad.prog 5 #[.pointer (some ⟨pb, 0, none⟩), .pointer (some ⟨fb, 0, none⟩), .int .i64 ed, .bool ta] w fun r w' => ∃ g kids, w.heap.size ≤ g ∧
      Blk w' g #[strR, .int .i64 pos, .int .i64 ed, .string (inp.extract pos ed), kids] 35 ∧ ((m = mark ∧ kids = .slice none 0 0) ∨ (mark < m ∧ w'.ownsRow w.heap.size 33 1 kids (m - mark) (xs.drop mark))) ∧
      ((nf = k ∧ r = .returned (stepV (.pointer none) ed true) ∧ ∃ v, PB w' pb ⟨.slice (some ⟨rb, 0, none⟩) 1 1, .string inp, v, 0, .pointer none, .slice (some ⟨grb, 0, none⟩) gf gl, .slice (some ⟨gb, 0, none⟩) 1 2, 0, 0⟩ ∧
        w'.ownsRow B 33 1 v (mark + 1) (xs.take mark ++ [.pointer (some ⟨g, 0, none⟩)]) ∧ Turns w w' (fun k => k = pb ∨ k = nb ∨ k = gb)) ∨
       (nf < k ∧ r = .returned (stepV (.pointer (some ⟨x, 0, none⟩)) pos false) ∧
        PB w' pb ⟨.slice (some ⟨rb, 0, none⟩) 1 1, .string inp, .slice (some ⟨nb, 0, none⟩) mark m, 0, .pointer none, .slice (some ⟨grb, 0, none⟩) (gf + (kept (l.drop gf)).length) gl, .slice (some ⟨gb, 0, none⟩) 2 2, 0, 1⟩ ∧
        w'.ownsRow B 33 1 (.slice (some ⟨nb, 0, none⟩) mark m) mark (xs.take mark) ∧ GB w' gb pos (.pointer (some ⟨g, 0, none⟩)) nf false (decide (0 < nf)) gf ∧ FB w' fb (.pointer (some ⟨eb, 0, none⟩)) pos nf mark ∧
        (∃ l', GR w' grb l' ∧ l'.length = l.length ∧ l'.take (gf + (kept (l.drop gf)).length) = l.take gf ++ kept (l.drop gf)) ∧ Turns w w' (fun k => k = pb ∨ k = gb ∨ k = grb ∨ k = fb))) := by
  obtain ⟨hp, hf, hg, he, hr0, hr4, hrow, hgr, hgl, hgf, hgk, hm, hmm, hk, hB, hab, hng, hgrb, hrg, hgp, hpe, hef, h1c⟩ := h
  have hnk2 : nf ≤ k := hnk
  have hkl : (kept (l.drop gf)).length ≤ gl - gf := by have := kept_le (l.drop gf); simp at this; omega
  have hd := fun w hG => delete_tail grb gf gl l w hG hgl hgf hgk
  obtain ⟨kl, hkq⟩ : ∃ kl, (kept (l.drop gf)).length = kl := ⟨_, rfl⟩
  simp only [hkq] at hkl hd ⊢
  have HKQ := hide hkq
  have HD := hide hd
  clear hkq hd
  have hpl := hp.lt
  have hfl := Blk.lt hf
  have hgbl := Blk.lt hg
  have hnl := ownsRow_block hrow
  have hP0 : PB _ pb _ := Blk.alloc hp (.cells #[.pointer none, .int .i64 0, .bool false] 73)
  have hF0 := Blk.alloc hf (.cells #[.pointer none, .int .i64 0, .bool false] 73)
  have hG0 := Blk.alloc hg (.cells #[.pointer none, .int .i64 0, .bool false] 73)
  have hE0 := Lib.cell?_alloc_some (.cells #[.pointer none, .int .i64 0, .bool false] 73) he
  have hQ0 := Lib.cell?_alloc_some (.cells #[.pointer none, .int .i64 0, .bool false] 73) hr4
  have hN0 := Lib.cell?_alloc_some (.cells #[.pointer none, .int .i64 0, .bool false] 73) hr0
  have hR0 := hrow.alloc (.cells #[.pointer none, .int .i64 0, .bool false] 73)
  have hL0 := hgr.alloc (.cells #[.pointer none, .int .i64 0, .bool false] 73)
  have hX0 := Blk.new w #[.pointer none, .int .i64 0, .bool false] 73
  have hT0 := (Turns.refl w (fun k => k = pb ∨ k = gb)).alloc (.cells #[.pointer none, .int .i64 0, .bool false] 73)
  have hA0 : nf < k → (w.alloc (.cells #[.pointer none, .int .i64 0, .bool false] 73)).cell? ⟨ab, nf, none⟩ = some (.pointer (some ⟨x, 0, none⟩)) := fun h => Lib.cell?_alloc_some _ (halt h)
  have hseed0 : seed = .pointer none ∨ ∃ (sd : Nat) (se : Int), seed = .pointer (some ⟨sd, 0, none⟩) ∧ (w.alloc (.cells #[.pointer none, .int .i64 0, .bool false] 73)).cell? ⟨sd, 2, none⟩ = some (.int .i64 se) ∧ se < ed :=
    orMapN hseed (fun ⟨sd, se, h1, h2, h3⟩ => ⟨sd, se, h1, Lib.cell?_alloc_some _ h2, h3⟩)
  obtain ⟨W0, hW0⟩ : ∃ W0, w.alloc (.cells #[.pointer none, .int .i64 0, .bool false] 73) = W0 := ⟨_, rfl⟩
  rw [hW0] at hP0 hF0 hG0 hE0 hQ0 hN0 hR0 hL0 hX0 hT0 hA0 hseed0
  have hsz0 : W0.heap.size = w.heap.size + 1 := by rw [← hW0]; simp
  have HW0 := hide hW0
  have p0 := hP0.c0
  have p23 := hP0.c23
  have f0 := FB.c0 hF0
  have g13 := GB.c13 hG0
  have HP0 := hide hP0
  have HF0 := hide hF0
  have HG0 := hide hG0
  have HR0 := hide hR0
  have HL0 := hide hL0
  have HX0 := hide hX0
  have HT0 := hide hT0
  have HA0 := hide hA0
  have HS0 := hide hseed0
  have HN0 := hide hN0
  have H1C := hide h1c
  have HNF := hide hnf
  clear hp hf hg he hr0 hr4 hrow hgr h1c hseed halt hP0 hF0 hG0 hR0 hL0 hX0 hT0 hA0 hseed0 hN0 hW0 hnf
  go_enter Ybad.func5, Ybad.ntmps5
  go_wp2
  rw [unhide HW0]
  go_region
  go_upto_region 2 with fail
  go_cut [52] from 12 to 51 (fun t wc => t = .bool false ∧ wc = W0.drew)
  case first =>
    rcases unhide HS0 with rfl | ⟨sd, se, rfl, hse, hlt⟩
    · go_wp2
      go_meet
      case rel => exact ⟨rfl, rfl⟩
    · go_wp2
      go_meet
      case rel => exact ⟨by simp; omega, rfl⟩
  case rest =>
    obtain ⟨rfl, rfl⟩ := hcut
    go_wp2_with fail
    refine (node_calls pb fb eb rb B m mark nb m pos ed next inp _ xs W0.drew (Blk.drew (unhide HP0)) (Blk.drew (unhide HF0)) hE0 rfl (unhide HN0) rfl hpd hei hi40 rfl (unhide HR0) hmm (by omega) (by omega) (by omega) (unhide H1C)).mono ?_
    rintro r w1 ⟨g, kids, rfl, hgw, hN1, hP1, hR1, hK1, hT1⟩
    have hgw' : W0.heap.size ≤ g := hgw
    have hG1 := Blk.turns (Blk.drew (unhide HG0)) hT1 (by omega)
    have hF1 := Blk.turns (Blk.drew (unhide HF0)) hT1 (by omega)
    have hX1 := Blk.turns (Blk.drew (unhide HX0)) hT1 (by omega)
    have hL1 := GR.turns (w := W0.drew) (unhide HL0) hT1 (by omega)
    have hTT1 : Turns w w1 (fun k => k = pb ∨ k = gb) := (unhide HT0).drew.trans (hT1.mono (fun k _ h => .inl (.inl h)))
    have hA1 : nf < k → w1.cell? ⟨ab, nf, none⟩ = some (.pointer (some ⟨x, 0, none⟩)) := fun h => (hT1.cell (p := ⟨ab, nf, none⟩) (by show ab < W0.heap.size; omega) (by show ¬ ab = pb; omega)).trans (unhide HA0 h)
    have q13 := GB.c13 hG1
    have y13 := Blk.frozen hG1 13
    have HG1 := hide hG1
    have HN1 := hide hN1
    have HP1 := hide hP1
    have HR1 := hide hR1
    have HK1 := hide hK1
    have HF1 := hide hF1
    have HX1 := hide hX1
    have HL1 := hide hL1
    have HTT1 := hide hTT1
    have HA1 := hide hA1
    clear hgw hN1 hP1 hR1 hK1 hT1 hG1 hF1 hX1 hL1 hTT1 hA1 HP0 HF0 HG0 HR0 HL0 HX0 HT0 HA0 HS0 HN0 p0 p23 f0 g13 hE0 hQ0 H1C HW0
    go_upto_block 0 with fail
    have hG2 := GB.set13 (unhide HG1) (.pointer (some ⟨g, 0, none⟩))
    have hTT2 := (unhide HTT1).setCell (p := ⟨gb, 13, none⟩) (.inl (.inr rfl)) (.pointer (some ⟨g, 0, none⟩))
    have hT12 := (Turns.refl w1 (fun k => k = gb)).setCell (p := ⟨gb, 13, none⟩) (.inl rfl) (.pointer (some ⟨g, 0, none⟩))
    have hsz1 : W0.heap.size ≤ w1.heap.size := by have := (unhide HTT1).2.2.2.1; have := Blk.lt (unhide HX1); omega
    obtain ⟨W2, hW2⟩ : ∃ W2, w1.setCell ⟨gb, 13, none⟩ (.pointer (some ⟨g, 0, none⟩)) = W2 := ⟨_, rfl⟩
    rw [hW2] at hG2 hTT2 hT12 ⊢
    have s16 := GB.c16 hG2
    have s14 := GB.c14 hG2
    have ys14 := Blk.frozen hG2 14
    have t2 := FB.c2 (Blk.turns (unhide HF1) hT12 (by omega))
    have HG2 := hide hG2
    have HTT2 := hide hTT2
    have HT12 := hide hT12
    clear hW2 hG2 hTT2 hT12 q13 y13 HG1
    go_cut [11] from 75 to 94 (fun t wc => t = undef ∧ GB wc gb pos (.pointer (some ⟨g, 0, none⟩)) nf tir true gf ∧ Turns W2 wc (fun k => k = gb))
    case first =>
      have hnf := unhide HNF
      cases tir with
      | true =>
        simp at hnf
        subst hnf
        go_wp2
        go_meet
        case rel => exact ⟨rfl, unhide HG2, Turns.refl _ _⟩
      | false =>
        cases ta with
        | true =>
          simp at hnf
          have hb1 : next + 1 ≤ 10 := by omega
          have hb2 : 0 ≤ next + 1 := by omega
          go_wp2
          go_meet
          case rel => exact ⟨rfl, by rw [hnf]; exact GB.set14 (unhide HG2) _, (Turns.refl _ (fun k => k = gb)).setCell (p := ⟨gb, 14, none⟩) (.inl rfl) _⟩
        | false =>
          simp at hnf
          obtain rfl : nf = k := by omega
          go_wp2
          go_meet
          case rel => exact ⟨rfl, GB.set14 (unhide HG2) _, (Turns.refl _ (fun k => k = gb)).setCell (p := ⟨gb, 14, none⟩) (.inl rfl) _⟩
    case rest =>
      obtain ⟨rfl, hG3, hT23⟩ := hcut
      obtain ⟨w3, hw3⟩ : ∃ w3, w3 = wc := ⟨_, rfl⟩
      subst hw3
      have hT13 : Turns w1 w3 (fun k => k = gb) := (unhide HT12).trans (hT23.mono (fun k _ h => .inl h))
      have hTT3 : Turns w w3 (fun k => k = pb ∨ k = gb) := (unhide HTT2).trans (hT23.mono (fun k _ h => .inl (.inr h)))
      have hP3 : PB w3 pb _ := hT13.pb (unhide HP1) (by omega)
      have hF3 := Blk.turns (unhide HF1) hT13 (by omega)
      have hX3 := Blk.turns (unhide HX1) hT13 (by omega)
      have hN3 := Blk.turns (unhide HN1) hT13 (by omega)
      have hL3 := GR.turns (unhide HL1) hT13 (by omega)
      have hR3 := row_turns (unhide HR1) hT13 (fun k hk e => by simp [Value.ownBlock] at hk; omega)
      have hK3 : (m = mark ∧ kids = .slice none 0 0) ∨ (mark < m ∧ w3.ownsRow W0.heap.size 33 1 kids (m - mark) (xs.drop mark)) := orMapN (unhide HK1) (fun ⟨h1, h2⟩ => ⟨h1, row_turns h2 hT13 (fun k hk e => by have h0 : W0.heap.size ≤ k := (h2.lt k hk).1; omega)⟩)
      have hA3 : nf < k → w3.cell? ⟨ab, nf, none⟩ = some (.pointer (some ⟨x, 0, none⟩)) := fun h => (hT13.cell (p := ⟨ab, nf, none⟩) (by show ab < w1.heap.size; omega) (by show ¬ ab = gb; omega)).trans (unhide HA1 h)
      have hsz3 : w1.heap.size ≤ w3.heap.size := hT13.2.2.2.1
      have v14 := GB.c14 hG3
      have HG3 := hide hG3
      have HTT3 := hide hTT3
      have HP3 := hide hP3
      have HF3 := hide hF3
      have HX3 := hide hX3
      have HN3 := hide hN3
      have HL3 := hide hL3
      have HR3 := hide hR3
      have HK3 := hide hK3
      have HA3 := hide hA3
      clear hG3 hT23 hT13 hTT3 hP3 hF3 hX3 hN3 hL3 hR3 hK3 hA3 HG2 HTT2 HT12 HN1 HP1 HR1 HK1 HF1 HX1 HL1 HTT1 HA1 s16 s14 ys14 t2 HNF
      rcases Nat.lt_or_ge nf k with hlt | hge
      · have v19 := GB.c19 (unhide HG3)
        have m15 := (unhide HP3).c15
        have hA := unhide HA3 hlt
        have HL3' : Hid (GR w3.drew grb l) := (unhide HL3).turns (T := fun _ => False) (Turns.refl w3 _).drew (fun h => h)
        have hS : w3.cell? ⟨pb, 15, none⟩ = some (.slice (some ⟨grb, 0, none⟩) gl gl) ∧ w3.cell? ⟨gb, 19, none⟩ = some (.int .i64 gf) := ⟨m15, v19⟩
        go_upto_region 12 with fail
        go_cut [11] from 95 to 114 (fun t w4 => (∃ ao, t = .slice ao kl (gl - gf)) ∧ ∃ l', GR w4 grb l' ∧ l'.length = l.length ∧ l'.take (gf + kl) = l.take gf ++ kept (l.drop gf) ∧ Turns w3 w4 (fun k => k = grb))
        case first =>
          have hd := unhide HD w3.drew (unhide HL3')
          by_cases hgg : gl = gf
          · subst hgg
            simp only [if_true, Nat.sub_self] at hd
            have HD' := hide hd
            clear hd HD
            go_region_held3 (fun w' => w'.cell? ⟨pb, 15, none⟩ = some (.slice (some ⟨grb, 0, none⟩) gl gl) ∧ w'.cell? ⟨gb, 19, none⟩ = some (.int .i64 gl)) (first | with_reducible assumption | exact hS)
              (first | (go_at_call 13; refine (unhide HD').mono ?_; rintro r w4 ⟨⟨ao, rfl⟩, hX⟩; have hS4 : w4.cell? ⟨pb, 15, none⟩ = some (.slice (some ⟨grb, 0, none⟩) gl gl) ∧ w4.cell? ⟨gb, 19, none⟩ = some (.int .i64 gl) := (by obtain ⟨_, _, _, _, hT⟩ := hX; exact ⟨(hT.cell (p := ⟨pb, 15, none⟩) (by show pb < w3.heap.size; omega) (by show ¬ pb = grb; omega)).trans m15, (hT.cell (p := ⟨gb, 19, none⟩) (by show gb < w3.heap.size; omega) (by show ¬ gb = grb; omega)).trans v19⟩); have HX4 := hide hX; clear hX))
            go_wp2
            go_meet
            case rel =>
              obtain ⟨l', h1, h2, h3, h4⟩ := unhide HX4
              exact ⟨⟨ao, by simp⟩, l', h1, h2, h3, ((Turns.refl w3 _).drew.trans (h4.mono (fun k _ h => .inl h)))⟩
          · simp only [if_neg hgg] at hd
            have HD' := hide hd
            clear hd HD
            go_region_held3 (fun w' => w'.cell? ⟨pb, 15, none⟩ = some (.slice (some ⟨grb, 0, none⟩) gl gl) ∧ w'.cell? ⟨gb, 19, none⟩ = some (.int .i64 gf)) (first | with_reducible assumption | exact hS)
              (first | (go_at_call 13; refine (unhide HD').mono ?_; rintro r w4 ⟨⟨ao, rfl⟩, hX⟩; have hS4 : w4.cell? ⟨pb, 15, none⟩ = some (.slice (some ⟨grb, 0, none⟩) gl gl) ∧ w4.cell? ⟨gb, 19, none⟩ = some (.int .i64 gf) := (by obtain ⟨_, _, _, _, hT⟩ := hX; exact ⟨(hT.cell (p := ⟨pb, 15, none⟩) (by show pb < w3.heap.size; omega) (by show ¬ pb = grb; omega)).trans m15, (hT.cell (p := ⟨gb, 19, none⟩) (by show gb < w3.heap.size; omega) (by show ¬ gb = grb; omega)).trans v19⟩); have HX4 := hide hX; clear hX))
            go_wp2
            go_meet
            case rel =>
              obtain ⟨l', h1, h2, h3, h4⟩ := unhide HX4
              exact ⟨⟨ao, rfl⟩, l', h1, h2, h3, ((Turns.refl w3 _).drew.trans (h4.mono (fun k _ h => .inl h)))⟩
        case rest =>
          obtain ⟨⟨ao, rfl⟩, l', hL4, hl4, ht4, hT34⟩ := hcut
          have hP4 : PB wc pb _ := hT34.pb (unhide HP3) (by omega)
          have hG4 := Blk.turns (unhide HG3) hT34 (by omega)
          have hF4 := Blk.turns (unhide HF3) hT34 (by omega)
          have hX4 := Blk.turns (unhide HX3) hT34 (by omega)
          have hN4 := Blk.turns (unhide HN3) hT34 (by omega)
          have hR4 := row_turns (unhide HR3) hT34 (fun k hk e => by simp [Value.ownBlock] at hk; omega)
          have hK4 : (m = mark ∧ kids = .slice none 0 0) ∨ (mark < m ∧ wc.ownsRow W0.heap.size 33 1 kids (m - mark) (xs.drop mark)) := orMapN (unhide HK3) (fun ⟨h1, h2⟩ => ⟨h1, row_turns h2 hT34 (fun k hk e => by have h0 : W0.heap.size ≤ k := (h2.lt k hk).1; omega)⟩)
          have hA4 : wc.cell? ⟨ab, nf, none⟩ = some (.pointer (some ⟨x, 0, none⟩)) := (hT34.cell (p := ⟨ab, nf, none⟩) (by show ab < w3.heap.size; omega) (by show ¬ ab = grb; omega)).trans hA
          have hTT4 : Turns w wc (fun k => k = pb ∨ k = gb ∨ k = grb ∨ k = fb) := ((unhide HTT3).mono (fun k _ h => by omega)).trans (hT34.mono (fun k _ h => by omega))
          have hsz4 : w3.heap.size ≤ wc.heap.size := hT34.2.2.2.1
          have j15 := hP4.c15
          have j25 := hP4.c25
          have y15 := hP4.frozen 15
          have y25 := hP4.frozen 25
          have j19 := GB.c19 hG4
          have j14 := GB.c14 hG4
          have j16 := GB.c16 hG4
          have j17 := GB.c17 hG4
          have y16 := Blk.frozen hG4 16
          have y17 := Blk.frozen hG4 17
          have e1 := FB.c1 hF4
          have e2 := FB.c2 hF4
          have ye2 := Blk.frozen hF4 2
          have x0 := hX4.cell 0 rfl
          have x1 := hX4.cell 1 rfl
          have x2 := hX4.cell 2 rfl
          have yx0 := hX4.frozen 0
          have yx1 := hX4.frozen 1
          have yx2 := hX4.frozen 2
          have HP4 := hide hP4
          have HG4 := hide hG4
          have HF4 := hide hF4
          have HX4 := hide hX4
          have HN4 := hide hN4
          have HR4 := hide hR4
          have HK4 := hide hK4
          have HL4 := hide hL4
          have Hl4 := hide hl4
          have Ht4 := hide ht4
          have HTT4 := hide hTT4
          clear hP4 hG4 hF4 hX4 hN4 hR4 hK4 hL4 hl4 ht4 hTT4 hT34 HG3 HTT3 HP3 HF3 HX3 HN3 HL3 HR3 HK3 HA3 HL3' HD v14 v19 m15 hA hS
          go_wp2_with fail
          go_region
          have hP5 : PB _ pb _ := Blk.drew ((unhide HP4).set15 (.slice (some ⟨grb, 0, none⟩) (gf + kl) gl))
          have hT5 := ((Turns.refl wc (fun k => k = pb)).setCell (p := ⟨pb, 15, none⟩) (.inl rfl) (.slice (some ⟨grb, 0, none⟩) (gf + kl) gl)).drew
          obtain ⟨W5, hW5⟩ : ∃ W5, (wc.setCell ⟨pb, 15, none⟩ (.slice (some ⟨grb, 0, none⟩) (gf + kl) gl)).drew = W5 := ⟨_, rfl⟩
          rw [hW5] at hP5 hT5 ⊢
          have hG5 := Blk.turns (unhide HG4) hT5 (by omega)
          have hF5 := Blk.turns (unhide HF4) hT5 (by omega)
          have hA5 := (hT5.cell (p := ⟨ab, nf, none⟩) (by show ab < wc.heap.size; omega) (by show ¬ ab = pb; omega)).trans hA4
          clear hW5 j15 j25 y15 y25 j19 j14 j16 j17 y16 y17 e1 e2 ye2 x0 x1 x2 yx0 yx1 yx2 hA4
          have j14 := GB.c14 hG5
          have j16 := GB.c16 hG5
          have j17 := GB.c17 hG5
          have y16 := Blk.frozen hG5 16
          have y17 := Blk.frozen hG5 17
          have e2 := FB.c2 hF5
          have ye2 := Blk.frozen hF5 2
          have hgf' : gb ≠ fb := by omega
          have hfg' : fb ≠ gb := by omega
          have HP5 := hide hP5
          have HG5 := hide hG5
          have HF5 := hide hF5
          have HA5 := hide hA5
          have HT5 := hide hT5
          clear hP5 hG5 hF5 hA5 hT5
          go_wp2_with fail
          go_region
          have hG6 := Blk.drew (Blk.other (GB.set17 (GB.set16 (unhide HG5) false) (decide (0 < nf))) ⟨fb, 2, none⟩ (.int .i64 nf) hgf')
          have hF6 := Blk.drew (FB.set2 (Blk.other (Blk.other (unhide HF5) ⟨gb, 16, none⟩ (.bool false) hfg') ⟨gb, 17, none⟩ (.bool (decide (0 < nf))) hfg') nf)
          have hT6 := ((((Turns.refl W5 (fun k => k = gb ∨ k = fb)).setCell (p := ⟨gb, 16, none⟩) (.inl (.inl rfl)) (.bool false)).setCell (p := ⟨gb, 17, none⟩) (.inl (.inl rfl)) (.bool (decide (0 < nf)))).setCell (p := ⟨fb, 2, none⟩) (.inl (.inr rfl)) (.int .i64 nf)).drew
          obtain ⟨W6, hW6⟩ : ∃ W6, (((W5.setCell ⟨gb, 16, none⟩ (.bool false)).setCell ⟨gb, 17, none⟩ (.bool (decide (0 < nf)))).setCell ⟨fb, 2, none⟩ (.int .i64 nf)).drew = W6 := ⟨_, rfl⟩
          rw [hW6] at hG6 hF6 hT6 ⊢
          have hsz5 : wc.heap.size ≤ W5.heap.size := (unhide HT5).2.2.2.1
          have hP6 : PB W6 pb _ := hT6.pb (unhide HP5) (by omega)
          have hA6 := (hT6.cell (p := ⟨ab, nf, none⟩) (by show ab < W5.heap.size; omega) (by show ¬ (ab = gb ∨ ab = fb); omega)).trans (unhide HA5)
          have hsz6 : W5.heap.size ≤ W6.heap.size := hT6.2.2.2.1
          clear hW6 j14 j16 j17 y16 y17 e2 ye2
          have j25 := hP6.c25
          have y25 := hP6.frozen 25
          have HG6 := hide hG6
          have HF6 := hide hF6
          have HP6 := hide hP6
          have HA6 := hide hA6
          have HT6 := hide hT6
          clear hG6 hF6 hP6 hA6 hT6
          go_wp2_with fail
          have hP7 : PB _ pb _ := (unhide HP6).set25 1
          have hT7 := (Turns.refl W6 (fun k => k = pb)).setCell (p := ⟨pb, 25, none⟩) (.inl rfl) (.int .i64 1)
          obtain ⟨W7, hW7⟩ : ∃ W7, W6.setCell ⟨pb, 25, none⟩ (.int .i64 1) = W7 := ⟨_, rfl⟩
          rw [hW7] at hP7 hT7 ⊢
          have hsz7 : W6.heap.size ≤ W7.heap.size := hT7.2.2.2.1
          have hG7 := Blk.turns (unhide HG6) hT7 (by omega)
          have hF7 := Blk.turns (unhide HF6) hT7 (by omega)
          have hA7 := (hT7.cell (p := ⟨ab, nf, none⟩) (by show ab < W6.heap.size; omega) (by show ¬ ab = pb; omega)).trans (unhide HA6)
          have hT47 : Turns wc W7 (fun k => k = pb ∨ k = gb ∨ k = fb) := (((unhide HT5).mono (fun k _ h => by omega)).trans ((unhide HT6).mono (fun k _ h => by omega))).trans (hT7.mono (fun k _ h => by omega))
          have hX7 := Blk.turns (unhide HX4) hT47 (by omega)
          clear hW7 j25 y25
          have e1 := FB.c1 hF7
          have e2 := FB.c2 hF7
          have x0 := hX7.cell 0 rfl
          have x1 := hX7.cell 1 rfl
          have x2 := hX7.cell 2 rfl
          have yx0 := hX7.frozen 0
          have yx1 := hX7.frozen 1
          have yx2 := hX7.frozen 2
          have HG7 := hide hG7
          have HF7 := hide hF7
          have HP7 := hide hP7
          have HX7 := hide hX7
          have HT47 := hide hT47
          clear hG7 hF7 hP7 hX7 hT47 hT7 HG6 HF6 HP6 HA6 HT6 HG5 HF5 HP5 HA5 HT5
          go_region
          go_wp2
          obtain ⟨W8, hW8, c0, c1, c2, hP8, hG8, hF8, hN8, hR8, hK8, hL8, hT8⟩ := next_end (x := .pointer (some ⟨x, 0, none⟩)) (pv := .int .i64 pos) (unhide HX7) rfl (unhide HP7) (unhide HG7) (unhide HF7) (unhide HT47) (unhide HN4) (unhide HR4) (unhide HK4) (unhide HL4) (unhide HTT4) hsz0 hgw' hng (by omega) hgp (by omega) hfl
          rw [hW8]
          clear hW8 e1 e2 x0 x1 x2 yx0 yx1 yx2
          simp [bodyPost, results, go_sem, c0, c1, c2]
          refine ⟨g, by omega, kids, hN8, hK8, ?_⟩
          first
            | exact ⟨hP8, hR8, hG8, hF8, ⟨l', hL8, (unhide Hl4).trans hgl, unhide Ht4⟩, hT8⟩
            | exact .inr ⟨hP8, hR8, hG8, hF8, ⟨l', hL8, (unhide Hl4).trans hgl, unhide Ht4⟩, hT8⟩
      · obtain rfl : nf = k := by omega
        go_wp2_with fail
        refine (endGrowth_calls pb fb B mark g gb grb gl gf ed pos next mark nf tir true _ _ (xs.take mark) w3 (unhide HP3) (unhide HF3) (unhide HG3) rfl rfl rfl rfl rfl hgf (unhide HR3) (by omega) (by omega) ((unhide HN3).cell 2 rfl) (by omega) (by simp [Value.ownBlock]; omega) (by simp [Value.ownBlock]; omega) (by omega)).mono ?_
        rintro r w4 ⟨rfl, v, hP4, hr4, hT4⟩
        have hT4' : Turns w w4 (fun k => k = pb ∨ k = nb ∨ k = gb) := ((unhide HTT3).mono (fun k _ h => by omega)).trans (hT4.mono (fun k _ h => by simp [Value.ownBlock] at h; omega))
        have hX4 : Blk w4 w.heap.size #[.pointer none, .int .i64 0, .bool false] 73 := Blk.turns (unhide HX3) hT4 (fun h => by simp [Value.ownBlock] at h; omega)
        have hN4 := Blk.turns (unhide HN3) hT4 (fun h => by simp [Value.ownBlock] at h; omega)
        have hK4 : (m = mark ∧ kids = .slice none 0 0) ∨ (mark < m ∧ w4.ownsRow W0.heap.size 33 1 kids (m - mark) (xs.drop mark)) := orMapN (unhide HK3) (fun ⟨h1, h2⟩ => ⟨h1, row_turns h2 hT4 (fun k hk e => by have h0 : W0.heap.size ≤ k := (h2.lt k hk).1; simp [Value.ownBlock] at e; omega)⟩)
        have r0 := hX4.cell 0 rfl
        have r1 := hX4.cell 1 rfl
        have r2 := hX4.cell 2 rfl
        have z0 := hX4.frozen 0
        have z1 := hX4.frozen 1
        have z2 := hX4.frozen 2
        have HX := hide (res_end hX4 hP4 hpl hr4 hT4' (.pointer none) (.int .i64 ed) (.bool true))
        have HN4 := hide hN4
        have HK4 := hide hK4
        clear hP4 hr4 hT4 hT4' hX4 hN4 hK4 HG3 HTT3 HP3 HF3 HX3 HN3 HL3 HR3 HK3 HA3 v14
        go_wp2
        have hN5 := ((Blk.other (unhide HN4) ⟨w.heap.size, 0, none⟩ (.pointer none) (by show g ≠ w.heap.size; omega)).other ⟨w.heap.size, 1, none⟩ (.int .i64 ed) (by show g ≠ w.heap.size; omega)).other ⟨w.heap.size, 2, none⟩ (.bool true) (by show g ≠ w.heap.size; omega)
        have hT45 := (((Turns.refl w4 (fun k => k = w.heap.size)).setCell (p := ⟨w.heap.size, 0, none⟩) (.inl rfl) (.pointer none)).setCell (p := ⟨w.heap.size, 1, none⟩) (.inl rfl) (.int .i64 ed)).setCell (p := ⟨w.heap.size, 2, none⟩) (.inl rfl) (.bool true)
        have hK5 := orMapN (unhide HK4) (fun (h : mark < m ∧ w4.ownsRow W0.heap.size 33 1 kids (m - mark) (xs.drop mark)) => (⟨h.1, row_turns h.2 hT45 (fun k hk e => by have h0 : W0.heap.size ≤ k := (h.2.lt k hk).1; omega)⟩ : mark < m ∧ _))
        obtain ⟨W4, hW4, c0, c1, c2, hP4, hr4, hT4⟩ := unhide HX
        rw [hW4] at hN5 hK5 ⊢
        clear r0 r1 r2 z0 z1 z2 HX hW4 hT45 HN4 HK4
        simp [bodyPost, results, go_sem, c0, c1, c2]
        exact ⟨g, by omega, kids, hN5, orMapN hK5 (fun h => ⟨h.1, row_base h.2 (by omega)⟩), v, hP4, hr4, hT4⟩
end Go.Proofs.YbulkblmiDoor
