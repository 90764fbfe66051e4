/-
  LawS3115ARound, walked: the next round is begun.
-/
import Derived.Test.YbulkblmiDoorLaw
namespace Go.Proofs.YbulkblmiDoor
open Go.RowKit

set_option maxRecDepth 100000 in
set_option maxHeartbeats 8000000 in
theorem law_walkC (K Nx Fr IL Ps En NN Mk SE GF : Nat) (hs ti ta : Bool) (ao : Option Addr) (len cap : Nat) (w : World) (hK : K < 256) (hNx : Nx < 256) (hFr : Fr < 256) (hIL : IL < 256) (hPs : Ps < 256) (hEn : En < 256) (hNN : NN < 256) (hMk : Mk < 256) (hSE : SE < 256) (hGF : GF < 256) (hlen : len ≤ 1024) (tk : List Bool) (htl : tk.length = len) (hArg : len = 0 ∨ ∃ tb q0, ao = some ⟨tb, q0, none⟩ ∧ tb < w.heap.size ∧ ∀ j, j < len → w.cell? ⟨tb, q0 + j, none⟩ = some (.bool (tk.getD j false)))
    (k L pos ed nN mark gf nx fr : Nat) (ek : (1 : Int) + (K : Int) % 5 = k) (eL : (IL : Int) % 40 = L) (ep : (Ps : Int) % ((L : Int) + 1) = pos) (ee : (pos : Int) + (En : Int) % ((L : Int) - pos + 1) = ed) (en : (NN : Int) % 6 = nN) (em : (Mk : Int) % ((nN : Int) + 1) = mark) (eg : (GF : Int) % ((len : Int) + 1) = gf) (ex : (Nx : Int) % (k : Int) = nx) (ef : (Fr : Int) % ((k : Int) + 1) = fr) (hsc : ¬ (hs = true ∧ ed ≤ SE)) (hsn : (if ti = true then (fr : Int) else if ta = true then (nx : Int) + 1 else (k : Int)) < k) :
    Calls Ybad.prog 3 #[.agg (inCells K Nx Fr IL Ps En NN Mk SE GF hs ti ta), .slice ao len cap] w fun r w' => r = .returned (.bool true) ∧ Below w.heap.size w w' := by
  have hk1 : 1 ≤ k := by omega
  have hk5 : k ≤ 5 := by omega
  have hL40 : L < 40 := by omega
  have hpL : pos ≤ L := by have := Int.emod_lt_of_pos (Ps : Int) (show (0 : Int) < (L : Int) + 1 by omega); omega
  have hnN6 : nN ≤ 5 := by omega
  have hmN : mark ≤ nN := by have := Int.emod_lt_of_pos (Mk : Int) (show (0 : Int) < (nN : Int) + 1 by omega); omega
  have hgl : gf ≤ len := by have := Int.emod_lt_of_pos (GF : Int) (show (0 : Int) < (len : Int) + 1 by omega); omega
  have hLp : (0 : Int) < (L : Int) - pos + 1 := by omega
  have hpe : pos ≤ ed := by have := Int.emod_nonneg (En : Int) (show (L : Int) - pos + 1 ≠ 0 by omega); omega
  have heL : ed ≤ L := by have := Int.emod_lt_of_pos (En : Int) hLp; omega
  have hxk : nx < k := by have := Int.emod_lt_of_pos (Nx : Int) (show (0 : Int) < (k : Int) by omega); omega
  have hfk : fr ≤ k := by have := Int.emod_lt_of_pos (Fr : Int) (show (0 : Int) < (k : Int) + 1 by omega); omega
  have hSE2 : SE < 256 := hSE
  have HSC := hide hsc
  have HSN := hide hsn
  clear hsc hsn
  have htl2 : tk.length = len := htl
  have HARG := hide hArg
  clear hArg
  obtain ⟨i26, h26, z26a, z26b, z26c⟩ := info_parts info26
  obtain ⟨i5, h5, z5a, z5b, z5c⟩ := info_parts info5
  obtain ⟨i33, h33, z33a, z33b, z33c⟩ := info_parts info33
  obtain ⟨i43, h43, z43a, z43b, z43c⟩ := info_parts info43b
  go_enter Ybad.func3, Ybad.ntmps3
  go_upto_region 4 with fail
  have hIn1 := Blk.new w (inCells K Nx Fr IL Ps En NN Mk SE GF hs ti ta) 23
  have hB1 : Below w.heap.size w (w.alloc (.cells (inCells K Nx Fr IL Ps En NN Mk SE GF hs ti ta) 23)) := (Below.refl _ w).alloc (Nat.le_refl _) _
  obtain ⟨w1, hw1⟩ : ∃ w1, w.alloc (.cells (inCells K Nx Fr IL Ps En NN Mk SE GF hs ti ta) 23) = w1 := ⟨_, rfl⟩
  rw [hw1] at hIn1 hB1 ⊢
  clear hw1
  have HI1 := hide hIn1
  have HB1 := hide hB1
  have hwl : w.heap.size < w1.heap.size := hIn1.lt
  clear hIn1 hB1
  obtain ⟨ab, hab⟩ : ∃ ab, w1.heap.size = ab := ⟨_, rfl⟩
  go_wp2_with (at_make; refine wpList_make_full _ rfl _ _ 25 rfl w1.heap.size 26 i26 (.pointer none) 1 Ybad.underlying25 h26 z26a z26b _ _ _ _ k rfl rfl rfl rfl (by rw [z26c]; omega) (by unfold maxLen; omega) (Nat.le_refl _) ?_)
  intro w2 hrow2 hgr2
  have hF2 := hide (Fill.start hrow2)
  have hT2 : Hid (Turns w1 w2 (fun _ => False)) := (Turns.refl w1 _).grown hgr2 (fun k e => by cases e)
  clear hrow2 hgr2
  go_upto_block 0 with fail
  go_cut [7] from 32 to 52 (fun t wc => t = .int .i64 k ∧ Fill wc ab 26 k k ∧ Turns w2 wc (fun b => b = ab))
  case first =>
    go_wp2_with fail
    go_loopw [7] (fun v wr => ∃ i : Nat, i ≤ k ∧ v = .int .i64 i ∧ Hid (Fill wr ab 26 k i) ∧ Hid (Turns w2 wr (fun b => b = ab))) (fun v _ => k - (intOf v).toNat)
    case atStart => exact ⟨0, Nat.zero_le _, rfl, hF2, Turns.refl _ _⟩
    case round =>
      obtain ⟨i, hi, rfl, HF, HT⟩ := hrel
      by_cases hlt : i < k
      · obtain ⟨v0, c0⟩ := (unhide HF).there hlt
        have z0 := (unhide HF).frozen i
        have hbl := (unhide HF).lt
        go_wp2
        go_roundw
        case rel => exact ⟨i + 1, hlt, by simp, (unhide HF).step2 hlt _, ((unhide HT).setCell (p := ⟨ab, i, none⟩) (.inl rfl) _).alloc _⟩
        case measure => go_light; simp [intOf]; omega
      · obtain rfl : i = k := by go_light; omega
        go_wp2
        go_meet
        case rel => exact ⟨rfl, unhide HF, unhide HT⟩
  case rest =>
    obtain ⟨rfl, hF3, hT23⟩ := hcut
    obtain ⟨w3, hw3⟩ : ∃ w3, w3 = wc := ⟨_, rfl⟩
    subst hw3
    have hT13 : Turns w1 w3 (fun b => b = ab) := ((unhide hT2).mono (fun _ _ h => h.elim)).trans (hT23.mono (fun _ _ h => .inl h))
    have hI3 := (unhide HI1).turns hT13 (by omega)
    have hB3 : Below w.heap.size w w3 := (unhide HB1).trans (hT13.to_below (by omega) (fun k e => by omega))
    have d3 := hI3.cell 3 rfl
    have hab3 := hF3.lt
    have HF3 := hide hF3
    have HI3 := hide hI3
    have HB3 := hide hB3
    clear hF3 hT23 hT13 hI3 hB3 hF2 hT2 HI1 HB1
    obtain ⟨bb, hbb⟩ : ∃ bb, w3.heap.size = bb := ⟨_, rfl⟩
    go_upto_region 10 with fail
    simp only [eL]
    go_wp2_with (at_make; refine wpList_make_full _ rfl _ _ 31 rfl w3.heap.size 5 i5 (.int .u8 0) 1 Ybad.underlying31 h5 z5a z5b _ _ _ _ L rfl rfl rfl rfl (by rw [z5c]; omega) (by unfold maxLen; omega) (Nat.le_refl _) ?_)
    intro w4 hrow4 hgr4
    have hF4 : Hid (Byt w4 bb L) := by
      have h := hrow4
      rw [toList_madeCells_one] at h
      exact Byt.start h
    have hT4 : Hid (Turns w3 w4 (fun _ => False)) := (Turns.refl w3 _).grown hgr4 (fun k e => by cases e)
    clear hrow4 hgr4
    go_upto_block 2 with fail
    go_cut [10] from 53 to 70 (fun t wc => t = .int .i64 L ∧ Byt wc bb L ∧ Turns w4 wc (fun b => b = bb))
    case first =>
      go_wp2_with fail
      go_loopw [10] (fun v wr => ∃ i : Nat, i ≤ L ∧ v = .int .i64 i ∧ Hid (Byt wr bb L) ∧ Hid (Turns w4 wr (fun b => b = bb))) (fun v _ => L - (intOf v).toNat)
      case atStart => exact ⟨0, Nat.zero_le _, rfl, hF4, Turns.refl _ _⟩
      case round =>
        obtain ⟨i, hi, rfl, HF, HT⟩ := hrel
        by_cases hlt : i < L
        · obtain ⟨v0, c0⟩ := (unhide HF).there hlt
          have z0 := (unhide HF).frozen i
          go_wp2
          go_roundw
          case rel => exact ⟨i + 1, hlt, by simp, (unhide HF).step i _, (unhide HT).setCell (p := ⟨bb, i, none⟩) (.inl rfl) _⟩
          case measure => go_light; simp [intOf]; omega
        · obtain rfl : i = L := by go_light; omega
          go_wp2
          go_meet
          case rel => exact ⟨rfl, unhide HF, unhide HT⟩
    case rest =>
      obtain ⟨rfl, hF5, hT45⟩ := hcut
      obtain ⟨w5, hw5⟩ : ∃ w5, w5 = wc := ⟨_, rfl⟩
      subst hw5
      have hT35 : Turns w3 w5 (fun b => b = bb) := ((unhide hT4).mono (fun _ _ h => h.elim)).trans (hT45.mono (fun _ _ h => .inl h))
      have hI5 := (unhide HI3).turns hT35 (by omega)
      have hA5 := (unhide HF3).turns hT35 (by omega)
      have hB5 : Below w.heap.size w w5 := (unhide HB3).trans (hT35.to_below (by omega) (fun k e => by omega))
      obtain ⟨inp, hinp, hconv⟩ := hF5.string
      have hs5 : w3.heap.size ≤ w5.heap.size := hT35.2.2.2.1
      have d4 := hI5.cell 4 rfl
      have d5 := hI5.cell 5 rfl
      have d6 := hI5.cell 6 rfl
      have HI5 := hide hI5
      have HA5 := hide hA5
      have HB5 := hide hB5
      clear hF5 hT45 hT35 hI5 hA5 hB5 hF4 hT4 HI3 HF3 HB3 d3
      obtain ⟨nb, hnb⟩ : ∃ nb, w5.heap.size = nb := ⟨_, rfl⟩
      go_upto_region 17 with fail
      simp only [ep]
      go_upto_region 18 with fail
      go_upto_region 19 with fail
      simp only [en]
      go_wp2_with (at_make; refine wpList_make_full _ rfl _ _ 32 rfl w5.heap.size 33 i33 (.pointer none) 1 Ybad.underlying32 h33 z33a z33b _ _ _ _ nN rfl rfl rfl rfl (by rw [z33c]; omega) (by unfold maxLen; omega) (Nat.le_refl _) ?_)
      intro w6 hrow6 hgr6
      have hF6 := hide (Fill.start hrow6)
      have hT6 : Hid (Turns w5 w6 (fun _ => False)) := (Turns.refl w5 _).grown hgr6 (fun k e => by cases e)
      clear hrow6 hgr6
      go_upto_block 4 with fail
      go_cut [16] from 71 to 105 (fun t wc => t = .int .i64 nN ∧ Fill wc nb 33 nN nN ∧ Turns w6 wc (fun b => b = nb))
      case first =>
        go_wp2_with fail
        go_loopw [16] (fun v wr => ∃ i : Nat, i ≤ nN ∧ v = .int .i64 i ∧ Hid (Fill wr nb 33 nN i) ∧ Hid (Turns w6 wr (fun b => b = nb))) (fun v _ => nN - (intOf v).toNat)
        case atStart => exact ⟨0, Nat.zero_le _, rfl, hF6, Turns.refl _ _⟩
        case round =>
          obtain ⟨i, hi, rfl, HF, HT⟩ := hrel
          by_cases hlt : i < nN
          · obtain ⟨v0, c0⟩ := (unhide HF).there hlt
            have z0 := (unhide HF).frozen i
            have hbl := (unhide HF).lt
            go_wp2
            go_roundw
            case rel => exact ⟨i + 1, hlt, by simp, (unhide HF).step2 hlt _, ((unhide HT).setCell (p := ⟨nb, i, none⟩) (.inl rfl) _).alloc _⟩
            case measure => go_light; simp [intOf]; omega
          · obtain rfl : i = nN := by go_light; omega
            go_wp2
            go_meet
            case rel => exact ⟨rfl, unhide HF, unhide HT⟩
      case rest =>
        obtain ⟨rfl, hF7, hT67⟩ := hcut
        obtain ⟨w7, hw7⟩ : ∃ w7, w7 = wc := ⟨_, rfl⟩
        subst hw7
        have hT57 : Turns w5 w7 (fun b => b = nb) := ((unhide hT6).mono (fun _ _ h => h.elim)).trans (hT67.mono (fun _ _ h => .inl h))
        have hI7 := (unhide HI5).turns hT57 (by omega)
        have hA7 := (unhide HA5).turns hT57 (by omega)
        have hB7 : Below w.heap.size w w7 := (unhide HB5).trans (hT57.to_below (by omega) (fun k e => by omega))
        have hnbl := hF7.lt
        obtain ⟨xs, hrow7, hxl, hxp⟩ := hF7.row (B := w.heap.size) (by omega) (by omega)
        have hs7 : w5.heap.size ≤ w7.heap.size := hT57.2.2.2.1
        have HI7 := hide hI7
        have HA7 := hide hA7
        have HB7 := hide hB7
        have HR7 := hide hrow7
        have HXP := hide hxp
        have HXL := hide hxl
        clear hF7 hT67 hT57 hI7 hA7 hB7 hF6 hT6 HI5 HA5 HB5 d4 d5 d6 hrow7 hxp hxl hconv
        obtain ⟨ob, hob⟩ : ∃ ob, w7.heap.size = ob := ⟨_, rfl⟩
        go_wp2_with (at_make; refine wpList_make_full _ rfl _ _ 32 rfl w7.heap.size 33 i33 (.pointer none) 1 Ybad.underlying32 h33 z33a z33b _ _ _ _ nN rfl rfl rfl rfl (by rw [z33c]; omega) (by unfold maxLen; omega) (Nat.le_refl _) ?_)
        intro w8 hrow8 hgr8
        have hT78 : Turns w7 w8 (fun _ => False) := (Turns.refl w7 _).grown hgr8 (fun k e => by cases e)
        have hR78 := row_turns (unhide HR7) hT78 (fun _ _ h => h)
        obtain ⟨w9, hrun9, hrow9, hgr9⟩ := run_copy_rows (P := Ybad.prog) 32 3 33 1 ob nN nN nb nN ob w.heap.size _ xs Ybad.underlying32 (by kernel_rfl) hrow8 hR78 (fun v hv => by obtain ⟨x, rfl⟩ := unhide HXP v hv; rfl)
        have hT89 : Turns w8 w9 (fun b => b = ob) := (Turns.refl w8 _).grown hgr9 (fun k e => .inl (Option.some.inj e).symm)
        have hT79 : Turns w7 w9 (fun b => b = ob) := (hT78.mono (fun _ _ h => h.elim)).trans (hT89.mono (fun _ _ h => .inl h))
        have hI9 := (unhide HI7).turns hT79 (by omega)
        have hA9 := (unhide HA7).turns hT79 (by omega)
        have hR9 := row_turns (unhide HR7) hT79 (fun k hk e => by simp [Value.ownBlock] at hk; omega)
        have hB9 : Below w.heap.size w w9 := (unhide HB7).trans (hT79.to_below (by omega) (fun k e => by omega))
        have hobl := ownsRow_block hrow9
        have d7 := hI9.cell 7 rfl
        have d9 := hI9.cell 9 rfl
        have HI9 := hide hI9
        have HA9 := hide hA9
        have HB9 := hide hB9
        have HR9 := hide hR9
        have HO9 := hide hrow9
        clear hrow8 hgr8 hT78 hR78 hrow9 hgr9 hT89 hT79 hI9 hA9 hR9 hB9 HI7 HA7 HB7 HR7
        go_upto_region 27 with fail
        simp only [em]
        go_upto_region 28 with fail
        simp only [eg]
        have hs9 : w7.heap.size ≤ w9.heap.size := by omega
        obtain ⟨grb, hgrb⟩ : ∃ grb, w9.heap.size = grb := ⟨_, rfl⟩
        go_wp2_with (at_make; refine wpList_make_full _ rfl _ _ 36 rfl w9.heap.size 43 i43 _ 6 Ybad.underlying36 h43 z43a z43b _ _ _ _ len rfl rfl rfl rfl (by rw [z43c]; omega) (by unfold maxLen; omega) (Nat.le_refl _) ?_)
        intro w10 hrow10 hgr10
        have hG10 : GR w10 grb (List.replicate len (0, false)) := GR.start hrow10
        have hT10 : Turns w9 w10 (fun _ => False) := (Turns.refl w9 _).grown hgr10 (fun k e => by cases e)
        have hTK : len = 0 ∨ ∃ tb q0, ao = some ⟨tb, q0, none⟩ ∧ tb < w.heap.size ∧ ∀ j, j < len → w10.cell? ⟨tb, q0 + j, none⟩ = some (.bool (tk.getD j false)) := by
          refine orMapL (unhide HARG) ?_
          rintro ⟨tb, q0, h1, h2, h3⟩
          refine ⟨tb, q0, h1, h2, fun j hj => ?_⟩
          have hb := (unhide HB9).cell (p := ⟨tb, q0 + j, none⟩) h2
          exact (hT10.cell (p := ⟨tb, q0 + j, none⟩) (by show tb < w9.heap.size; omega) (fun h => h)).trans (hb.trans (h3 j hj))
        have HG10 := hide hG10
        have HT10 := hide hT10
        have HTK := hide hTK
        clear hrow10 hgr10 hG10 hT10 hTK hrun9
        go_upto_block 6 with fail
        go_cut [21] from 106 to 141 (fun t wc => t = .int .i64 len ∧ (∃ l, GR wc grb l ∧ l.length = len ∧ ∀ j, j < len → l[j]? = some (j, tk.getD j false)) ∧ Turns w10 wc (fun b => b = grb))
        case first =>
          go_wp2_with fail
          go_loopw [21] (fun v wr => ∃ (i : Nat) (l : List (Nat × Bool)), i ≤ len ∧ v = .int .i64 i ∧ Hid (GR wr grb l) ∧ Hid (l.length = len) ∧ Hid (∀ j, j < i → l[j]? = some (j, tk.getD j false)) ∧ Hid (Turns w10 wr (fun b => b = grb))) (fun v _ => len - (intOf v).toNat)
          case atStart => exact ⟨0, _, Nat.zero_le _, rfl, HG10, List.length_replicate, fun j hj => absurd hj (Nat.not_lt_zero _), Turns.refl _ _⟩
          case round =>
            obtain ⟨i, l, hi, rfl, HG, HL, HV, HT⟩ := hrel
            by_cases hlt : i < len
            · rcases unhide HTK with h0 | ⟨tb, q0, rfl, htb, hcell⟩
              · exact absurd hlt (by rw [h0]; exact Nat.not_lt_zero _)
              have hw10 : w.heap.size ≤ w10.heap.size := by have := (unhide HT10).2.2.2.1; omega
              have t0 := ((unhide HT).cell (p := ⟨tb, q0 + i, none⟩) (by show tb < w10.heap.size; omega) (by show ¬ tb = grb; omega)).trans (hcell i hlt)
              obtain ⟨⟨r', t'⟩, hxi⟩ : ∃ x, l[i]? = some x := ⟨_, List.getElem?_eq_getElem (by rw [unhide HL]; exact hlt)⟩
              obtain ⟨c0, c1, c2, c3, c4, c5⟩ := (unhide HG).cells hxi (i * 6) (by omega)
              have y0 := (unhide HG).frozen (i * 6)
              have y1 := (unhide HG).frozen (i * 6 + 1)
              have y2 := (unhide HG).frozen (i * 6 + 2)
              have y3 := (unhide HG).frozen (i * 6 + 3)
              have y4 := (unhide HG).frozen (i * 6 + 4)
              have y5 := (unhide HG).frozen (i * 6 + 5)
              obtain ⟨ti', htq⟩ : ∃ ti', tk.getD i false = ti' := ⟨_, rfl⟩
              rw [htq] at t0
              have HTQ := hide htq
              clear hcell hxi htq
              go_wp2
              go_roundw
              case rel =>
                refine ⟨i + 1, l.set i (i, ti'), hlt, by simp, (unhide HG).set i i ti' (by rw [unhide HL]; exact hlt) (i * 6) (by omega), (List.length_set).trans (unhide HL), fun j hj => ?_, ((((((unhide HT).setCell (p := ⟨grb, i * 6, none⟩) (.inl rfl) _).setCell (p := ⟨grb, i * 6 + 1, none⟩) (.inl rfl) _).setCell (p := ⟨grb, i * 6 + 2, none⟩) (.inl rfl) _).setCell (p := ⟨grb, i * 6 + 3, none⟩) (.inl rfl) _).setCell (p := ⟨grb, i * 6 + 4, none⟩) (.inl rfl) _).setCell (p := ⟨grb, i * 6 + 5, none⟩) (.inl rfl) _⟩
                by_cases hji : j = i
                · subst hji
                  rw [List.getElem?_set_self (by rw [unhide HL]; exact hlt), unhide HTQ]
                · rw [List.getElem?_set_ne (fun e => hji e.symm)]
                  exact unhide HV j (by omega)
              case measure => go_light; simp [intOf]; omega
            · obtain rfl : i = len := by go_light; omega
              go_wp2
              go_meet
              case rel => exact ⟨rfl, ⟨l, unhide HG, unhide HL, unhide HV⟩, unhide HT⟩
        case rest =>
          obtain ⟨rfl, ⟨l, hG11, hL11, hV11⟩, hT1011⟩ := hcut
          obtain ⟨w11, hw11⟩ : ∃ w11, w11 = wc := ⟨_, rfl⟩
          subst hw11
          have hT911 : Turns w9 w11 (fun b => b = grb) := ((unhide HT10).mono (fun _ _ h => h.elim)).trans (hT1011.mono (fun _ _ h => .inl h))
          have hI11 := (unhide HI9).turns hT911 (by omega)
          have hA11 := (unhide HA9).turns hT911 (by omega)
          have hR11 := row_turns (unhide HR9) hT911 (fun k hk e => by simp [Value.ownBlock] at hk; omega)
          have hO11 := row_turns (unhide HO9) hT911 (fun k hk e => by simp [Value.ownBlock] at hk; omega)
          have hB11 : Below w.heap.size w w11 := (unhide HB9).trans (hT911.to_below (by omega) (fun k e => by omega))
          have hgrl := hG11.lt
          have d10 := hI11.cell 10 rfl
          have d8 := hI11.cell 8 rfl
          have HI11 := hide hI11
          have HA11 := hide hA11
          have HR11 := hide hR11
          have HO11 := hide hO11
          have HB11 := hide hB11
          have HG11 := hide hG11
          have HL11 := hide hL11
          have HV11 := hide hV11
          clear hT911 hT1011 hI11 hA11 hR11 hO11 hB11 hG11 hL11 hV11 HI9 HA9 HR9 HO9 HB9 HG10 HT10 d7 d9
          go_upto_if 143 with fail
          go_cut [22] from 142 to 148 (fun t wc => ∃ q, t = .pointer q ∧ Turns w11 wc (fun _ => False) ∧ ((hs = false ∧ q = none) ∨ (hs = true ∧ q = some ⟨w11.heap.size, 0, none⟩ ∧ Blk wc w11.heap.size #[strR, .int .i64 0, .int .i64 SE, .string ByteArray.empty, .slice none 0 0] 35)))
          case first =>
            cases hs with
            | true =>
              go_wp2
              go_meet
              case rel => exact ⟨_, rfl, (Turns.refl _ _).alloc _, .inr ⟨trivial, rfl, Blk.new _ _ _⟩⟩
            | false =>
              go_wp2
              go_meet
              case rel => exact ⟨_, rfl, Turns.refl _ _, .inl ⟨trivial, rfl⟩⟩
          case rest =>
            obtain ⟨q, rfl, hT12, hq12⟩ := hcut
            obtain ⟨w12, hw12⟩ : ∃ w12, w12 = wc := ⟨_, rfl⟩
            subst hw12
            have hI12 := (unhide HI11).turns hT12 (fun h => h)
            have hA12 := (unhide HA11).turns hT12 (fun h => h)
            have hR12 := row_turns (unhide HR11) hT12 (fun _ _ h => h)
            have hO12 := row_turns (unhide HO11) hT12 (fun _ _ h => h)
            have hB12 : Below w.heap.size w w12 := (unhide HB11).trans (hT12.to_below (by omega) (fun k e => e.elim))
            have hG12 := (unhide HG11).turns hT12 (fun h => h)
            have hs12 : w11.heap.size ≤ w12.heap.size := hT12.2.2.2.1
            have hwl12 : w.heap.size < w12.heap.size := hI12.lt
            have d1 := hI12.cell 1 rfl
            have d2 := hI12.cell 2 rfl
            have d11 := hI12.cell 11 rfl
            have HI12 := hide hI12
            have HA12 := hide hA12
            have HR12 := hide hR12
            have HO12 := hide hO12
            have HB12 := hide hB12
            have HG12 := hide hG12
            have HQ12 := hide hq12
            clear hT12 hq12 hI12 hA12 hR12 hO12 hB12 hG12 HI11 HA11 HR11 HO11 HB11 HG11 d10 d8
            go_upto_region 37 with fail
            simp only [ex]
            go_upto_region 38 with fail
            simp only [ef]
            go_upto_region 40 with fail
            obtain ⟨w13, hw13, hLaid, hT13, hs13⟩ := lay_all (w := w) (ab := ab) (k := k) (mark := mark) (gf := gf) (pos := pos) (nx := nx) (fr := fr) (inp := inp) (q := q) (ti := ti) (unhide HR12) (unhide HXP) (unhide HG12) (unhide HL11) hgl hlen hnN6 hmN hk5 (by omega) (by omega) (by omega) (by omega)
            rw [hw13]
            have hI13 := (unhide HI12).turns hT13 (fun h => h)
            have hA13 := (unhide HA12).turns hT13 (fun h => h)
            have hO13 := row_turns (unhide HO12) hT13 (fun _ _ h => h)
            have hB13 : Below w.heap.size w w13 := (unhide HB12).trans (hT13.to_below (by omega) (fun k e => e.elim))
            have hcase : ((hs = true ∧ ed ≤ SE) ∧ ∃ sd : Nat, q = some ⟨sd, 0, none⟩ ∧ Blk w13 sd #[strR, .int .i64 0, .int .i64 SE, .string ByteArray.empty, .slice none 0 0] 35 ∧ grb < sd ∧ sd < w12.heap.size ∧ ed ≤ SE) ∨
                (¬ (hs = true ∧ ed ≤ SE) ∧ (Value.pointer q = .pointer none ∨ ∃ (sd : Nat) (se : Int), Value.pointer q = .pointer (some ⟨sd, 0, none⟩) ∧ w13.cell? ⟨sd, 2, none⟩ = some (.int .i64 se) ∧ se < ed ∧ grb < sd ∧ sd < w12.heap.size)) := by
              rcases unhide HQ12 with ⟨hs0, rfl⟩ | ⟨hsT, rfl, hSd⟩
              · exact .inr ⟨fun h => Bool.noConfusion (hs0.symm.trans h.1), .inl rfl⟩
              · have hSd' := hSd.turns hT13 (fun h => h)
                have hsl := hSd.lt
                by_cases hle : ed ≤ SE
                · exact .inl ⟨⟨hsT, hle⟩, w11.heap.size, rfl, hSd', by omega, hsl, hle⟩
                · exact .inr ⟨fun h => hle h.2, .inr ⟨w11.heap.size, SE, rfl, hSd'.cell 2 rfl, by omega, by omega, hsl⟩⟩
            clear hw13
            obtain ⟨fb, hfb⟩ : ∃ fb, w12.heap.size + 1 + 1 + 1 + 1 = fb := ⟨_, rfl⟩
            obtain ⟨eb, heb⟩ : ∃ eb, w12.heap.size + 1 + 1 + 1 = eb := ⟨_, rfl⟩
            obtain ⟨pb, hpb⟩ : ∃ pb, w12.heap.size + 1 + 1 = pb := ⟨_, rfl⟩
            obtain ⟨gb, hgb⟩ : ∃ gb, w12.heap.size + 1 = gb := ⟨_, rfl⟩
            rw [hfb, heb, hpb, hgb] at hLaid
            rw [hfb, hpb]
            have hwab : w.heap.size < ab := by omega
            have hwob : nb < ob ∧ ob < grb := by omega
            have hs13' : fb < w13.heap.size := by omega
            have hord : gb < pb ∧ pb < fb ∧ grb < gb ∧ w12.heap.size < gb := by omega
            have d12 := hI13.cell 12 rfl
            have HI13 := hide hI13
            have HA13 := hide hA13
            have HO13 := hide hO13
            have HB13 := hide hB13
            have HLAID := hide hLaid
            have HCASE := hide hcase
            clear hI13 hA13 hO13 hB13 hLaid hcase hT13 HI12 HA12 HR12 HO12 HB12 HG12 HQ12 d1 d2 d11
            go_wp2_with fail
            rcases unhide HCASE with ⟨hsA, sd, rfl, hSd, hs1, hs2, hle⟩ | ⟨hsN, hq⟩
            · exact absurd hsA (unhide HSC)
            · obtain ⟨nf, hnf⟩ : ∃ nf : Nat, (nf : Int) = if ti = true then (fr : Int) else if ta = true then (nx : Int) + 1 else (k : Int) := by
                cases ti
                · cases ta
                  · exact ⟨k, rfl⟩
                  · exact ⟨nx + 1, rfl⟩
                · exact ⟨fr, rfl⟩
              have hnk : nf ≤ k := by
                cases ti
                · cases ta
                  · simp at hnf; omega
                  · simp at hnf; omega
                · simp at hnf; omega
              obtain ⟨x, hx⟩ : ∃ x : Nat, nf < k → w13.cell? ⟨ab, nf, none⟩ = some (.pointer (some ⟨x, 0, none⟩)) := by
                by_cases h : nf < k
                · obtain ⟨x, hx⟩ := (unhide HA13).get h
                  exact ⟨x, fun _ => hx⟩
                · exact ⟨0, fun h' => absurd h' h⟩
              refine (nextRound_grows ed nf x ta (unhide HLAID) (orMapL hq (fun ⟨sd, se, e1, e2, e3, _⟩ => ⟨sd, se, e1, e2, e3⟩)) hnf hnk hpe (by omega) (by omega) hx).mono ?_
              rintro r w14 ⟨g, kids, hgw, hN14, hK14, hpost⟩
              have HNF := hide hnf
              rcases hpost with ⟨hnfk, rfl, v, hP14, hr14, hT14⟩ | ⟨hnfk, rfl, hP14, hr14, hG14, hF14, ⟨l', hL14, hl14, ht14⟩, hT14⟩
              · exact absurd (hnf ▸ (unhide HSN)) (by omega)
              · obtain ⟨kl, hkq⟩ : ∃ kl, (kept (l.drop gf)).length = kl := ⟨_, rfl⟩
                simp only [hkq] at hP14 ht14
                go_upto_region 41 with fail
                obtain ⟨w15, hw15, hP15, hX15, hI15, hA15, hG15, hF15, hL15, hpl, hfl, hB15, hwl15, hsd15, hpre, hnew⟩ := next_seen (ab := ab) (nf := nf) (a := .pointer (some ⟨x, 0, none⟩)) (b := .int .i64 pos) (c := .bool false) hP14 hr14 hT14 hG14 hF14 hL14 (unhide HI13) (hx hnfk) (unhide HO13) (unhide HB13) hN14 hK14 (unhide HXP) (unhide HXL) hmN hnN6 hpe (by omega) (by omega) hwab (by omega) hwob.1 hwob.2 hord.2.2.1 hord.1 hord.2.1
                rw [hw15]
                have hq15 : Value.pointer q = .pointer none ∨ ∃ (sd : Nat) (se : Int), Value.pointer q = .pointer (some ⟨sd, 0, none⟩) ∧ w15.cell? ⟨sd, 2, none⟩ = some (.int .i64 se) ∧ se < ed := orMapL hq (fun ⟨sd, se, e1, e2, e3, e4, e5⟩ => ⟨sd, se, e1, hsd15 sd _ e4 (by omega) e2, e3⟩)
                obtain ⟨gk, hgk⟩ : ∃ gk, gf + kl = gk := ⟨_, rfl⟩
                rw [hgk] at ht14
                have p23 := hP15.c23
                have p5 := hP15.c5
                have p15 : w15.cell? ⟨pb, 15, none⟩ = some (.slice (some ⟨grb, 0, none⟩) gk len) := hgk ▸ hP15.c15
                have p25 := hP15.c25
                have x0 := hX15.cell 0 rfl
                have x1 := hX15.cell 1 rfl
                have x2 := hX15.cell 2 rfl
                have i11 := hI15.cell 11 rfl
                have i12 := hI15.cell 12 rfl
                have f2 := FB.c2 hF15
                have g11 := GB.c11 hG15
                have g12 := GB.c12 hG15
                have g13 := GB.c13 hG15
                have g14 := GB.c14 hG15
                have g15 := GB.c15 hG15
                have g16 := GB.c16 hG15
                have g17 := GB.c17 hG15
                have g18 := GB.c18 hG15
                have g19 := GB.c19 hG15
                have g20 := GB.c20 hG15
                have g21 := GB.c21 hG15
                have HPRE := hide hpre
                have HNEW := hide hnew
                have HB15 := hide hB15
                have HQ15 := hide hq15
                have HL15 := hide hL15
                have Hl14 := hide hl14
                have Ht14 := hide ht14
                have HKQ := hide hkq
                have HGK := hide hgk
                clear hkq hgk hw15 hP15 hX15 hI15 hG15 hF15 hL15 hl14 ht14 hpre hnew hB15 hq15 hsd15 hq hP14 hr14 hT14 hG14 hF14 hL14 hN14 hK14 hgw hx HI13 HA13 HO13 HB13 HLAID HCASE d12 hnf
                go_cut [202] from 193 to 201 (fun t wc => t = .bool false ∧ wc = w15)
                case first =>
                  rcases unhide HQ15 with hq0 | ⟨sd, se, hq0, hse, hlt⟩
                  · cases hq0
                    go_wp2
                    go_meet
                    case rel => exact ⟨rfl, rfl⟩
                  · cases hq0
                    go_wp2
                    go_meet
                    case rel => exact ⟨by simp; omega, rfl⟩
                case rest =>
                  obtain ⟨rfl, hwc⟩ := hcut
                  rw [hwc]
                  clear hwc
                  go_upto_if 277 with fail
                  go_cut [28] from 278 to 282 (fun t wc => t = .int .i64 nf ∧ wc = w15)
                  case first =>
                    have hnf := unhide HNF
                    cases ti with
                    | true =>
                      simp at hnf
                      go_wp2
                      go_meet
                      case rel => exact ⟨by rw [hnf], rfl⟩
                    | false =>
                      cases ta with
                      | true =>
                        simp at hnf
                        go_wp2
                        go_meet
                        case rel => exact ⟨by rw [hnf], rfl⟩
                      | false =>
                        simp at hnf
                        exact absurd hnfk (by omega)
                  case rest =>
                    obtain ⟨rfl, hwc⟩ := hcut
                    rw [hwc]
                    clear hwc
                    have hne26 := neq26 x
                    have hnkI : ¬ nf = k := by omega
                    go_wp2_with fail
                    go_quiet (fail)
                    go_upto_region 52 with fail
                    have hT16 : Turns w15 (w15.drewN nq) (fun _ => False) := ⟨rfl, rfl, rfl, Nat.le_refl _, fun _ _ _ => rfl⟩
                    obtain ⟨w16, hw16⟩ : ∃ w16, w15.drewN nq = w16 := ⟨_, rfl⟩
                    rw [hw16] at hT16 ⊢
                    have tr : ∀ (b o : Nat) (v : Value), w15.cell? ⟨b, o, none⟩ = some v → w16.cell? ⟨b, o, none⟩ = some v := fun b o v h => by rw [← hw16]; exact h
                    have p5' := tr _ _ _ p5
                    have p23' := tr _ _ _ p23
                    have p15' := tr _ _ _ p15
                    have p25' := tr _ _ _ p25
                    have f2' := tr _ _ _ f2
                    have g11' := tr _ _ _ g11
                    have g12' := tr _ _ _ g12
                    have g13' := tr _ _ _ g13
                    have g14' := tr _ _ _ g14
                    have g15' := tr _ _ _ g15
                    have g16' := tr _ _ _ g16
                    have g17' := tr _ _ _ g17
                    have g18' := tr _ _ _ g18
                    have g19' := tr _ _ _ g19
                    have g20' := tr _ _ _ g20
                    have g21' := tr _ _ _ g21
                    have HT16 := hide hT16
                    clear hT16 tr hw16 p5 p15 p25 f2 g11 g12 g13 g14 g15 g16 g17 g18 g19 g20 g21 p23 x0 x1 x2 i11 i12 hA15 hne26
                    go_upto_region 53 with fail
                    have hC17 := Blk.new w16 #[.int .i64 0, .int .i64 pos, .pointer (some ⟨g, 0, none⟩), .int .i64 nf, .bool false, .bool false, .bool (decide (0 < nf)), .int .i64 0, .int .i64 gf, .bool false, .bool false] 49
                    have hT17 := (unhide HT16).alloc (.cells #[.int .i64 0, .int .i64 pos, .pointer (some ⟨g, 0, none⟩), .int .i64 nf, .bool false, .bool false, .bool (decide (0 < nf)), .int .i64 0, .int .i64 gf, .bool false, .bool false] 49)
                    obtain ⟨w17, hw17⟩ : ∃ w17, w16.alloc (.cells #[.int .i64 0, .int .i64 pos, .pointer (some ⟨g, 0, none⟩), .int .i64 nf, .bool false, .bool false, .bool (decide (0 < nf)), .int .i64 0, .int .i64 gf, .bool false, .bool false] 49) = w17 := ⟨_, rfl⟩
                    rw [hw17] at hC17 hT17 ⊢
                    have tr : ∀ (b o : Nat) (v : Value), w16.cell? ⟨b, o, none⟩ = some v → w17.cell? ⟨b, o, none⟩ = some v := fun b o v h => by rw [← hw17]; exact Lib.cell?_alloc_some _ h
                    have r5 := tr _ _ _ p5'
                    have r15 := tr _ _ _ p15'
                    have r25 := tr _ _ _ p25'
                    have rf2 := tr _ _ _ f2'
                    have k2 := hC17.cell 2 rfl
                    have k3 := hC17.cell 3 rfl
                    have k5 := hC17.cell 5 rfl
                    have k6 := hC17.cell 6 rfl
                    have hTd : ∀ d, Turns w15 (w17.drewN d) (fun _ => False) := fun d => ⟨hT17.1, hT17.2.1, hT17.2.2.1, hT17.2.2.2.1, hT17.2.2.2.2⟩
                    have HTD := hide hTd
                    clear tr hw17 hC17 hT17 hTd HT16 p5' p23' p15' p25' f2' g11' g12' g13' g14' g15' g16' g17' g18' g19' g20' g21'
                    go_cut [425] from 391 to 424 (fun t wc => t = .bool false ∧ ∃ d, wc = w17.drewN d)
                    case first =>
                      have hnewc : (mark = nN ∨ mark < nN) := by omega
                      rcases hnewc with rfl | hlt
                      · have HNEW' : Hid (∀ d, _) := fun d => (unhide HNEW (w17.drewN d) 0 (unhide HTD d)).1 rfl
                        clear HNEW
                        rcases Nat.eq_zero_or_pos nf with rfl | hpos
                        · go_quiet (first | (go_at_call 7; refine Calls.quiet_of (unhide HNEW' _)))
                          go_wp2
                          go_meet
                          case rel => exact ⟨rfl, _, rfl⟩
                        · have hdec : decide (0 < nf) = true := decide_eq_true hpos
                          rw [hdec] at k6
                          have hposI : (0 : Int) < nf := by omega
                          go_quiet (first | (go_at_call 7; refine Calls.quiet_of (unhide HNEW' _)))
                          go_wp2
                          go_meet
                          case rel => exact ⟨rfl, _, rfl⟩
                      · have HNEW' : Hid (∀ d, _) := fun d => (unhide HNEW (w17.drewN d) (nN - mark) (unhide HTD d)).2 hlt
                        have hcm : ¬ nN = mark := by omega
                        clear HNEW
                        rcases Nat.eq_zero_or_pos nf with rfl | hpos
                        · go_quiet (first | (go_at_call 7; refine Calls.quiet_of (unhide HNEW' _)))
                          go_wp2
                          go_meet
                          case rel => exact ⟨rfl, _, rfl⟩
                        · have hdec : decide (0 < nf) = true := decide_eq_true hpos
                          rw [hdec] at k6
                          have hposI : (0 : Int) < nf := by omega
                          go_quiet (first | (go_at_call 7; refine Calls.quiet_of (unhide HNEW' _)))
                          go_wp2
                          go_meet
                          case rel => exact ⟨rfl, _, rfl⟩
                    case rest =>
                      obtain ⟨rfl, d17, hwc⟩ := hcut
                      have hT18 := unhide HTD d17
                      have tr : ∀ (b o : Nat) (v : Value), w17.cell? ⟨b, o, none⟩ = some v → wc.cell? ⟨b, o, none⟩ = some v := fun b o v h => by rw [hwc]; exact h
                      rw [← hwc] at hT18
                      have s5 := tr _ _ _ r5
                      have s15 := tr _ _ _ r15
                      have s25 := tr _ _ _ r25
                      have HPRE' : Hid (∀ d, _) := fun d => unhide HPRE (wc.drewN d) ⟨hT18.1, hT18.2.1, hT18.2.2.1, hT18.2.2.2.1, hT18.2.2.2.2⟩
                      have hL18 := (unhide HL15).turns hT18 (fun h => h)
                      have hB18 : Below w.heap.size w wc := (unhide HB15).trans (hT18.to_below hwl15 (fun _ h => h.elim))
                      have HARG18 : Hid (len = 0 ∨ ∃ tb q0, ao = some ⟨tb, q0, none⟩ ∧ ∀ j, j < len → wc.cell? ⟨tb, q0 + j, none⟩ = some (.bool (tk.getD j false))) := by
                        refine orMapL (unhide HARG) ?_
                        rintro ⟨tb, q0, h1, h2, h3⟩
                        exact ⟨tb, q0, h1, fun j hj => (hB18.cell (p := ⟨tb, q0 + j, none⟩) h2).trans (h3 j hj)⟩
                      have HL18 := hide hL18
                      have HB18 := hide hB18
                      clear tr hwc hT18 hL18 hB18 HTD HPRE HNEW HL15 HB15 r5 r15 r25 rf2 k2 k3 k5 k6
                      go_wp2_with fail
                      go_quiet (first | (go_at_call 6; refine Calls.quiet_of (unhide HPRE' _)))
                      go_wp2_with fail
                      go_loopw [30, 31] (fun vj vi wr => ∃ i j d : Nat, i ≤ len ∧ vi = .int .i64 i ∧ vj = .int .i64 j ∧ j ≤ i ∧ Hid ((stay l gf i).length = j) ∧ wr = wc.drewN d) (fun _ vi _ => len - (intOf vi).toNat)
                      case atStart => exact ⟨0, 0, nq, Nat.zero_le _, rfl, rfl, Nat.le_refl _, (by show (stay l gf 0).length = 0; rw [stay_zero]; rfl), rfl⟩
                      case round =>
                        obtain ⟨i, j, d, hi, rfl, rfl, hji, HJ, rfl⟩ := hrel
                        rcases Nat.lt_or_ge i len with hlt | hge
                        · obtain ⟨ti', htq⟩ : ∃ t, tk.getD i false = t := ⟨_, rfl⟩
                          have hfacts := round_facts (l' := l') (unhide HL11) (unhide HV11) hgl (unhide HKQ) (unhide HGK) (unhide Ht14) hlt (unhide HJ) htq
                          rcases unhide HARG18 with h0 | ⟨tb, q0, rfl, hcell⟩
                          · exact absurd hlt (by rw [h0]; exact Nat.not_lt_zero _)
                          have t0 := hcell i hlt
                          rw [htq] at t0
                          clear hcell htq
                          rcases hfacts with ⟨hgi, rfl, hS⟩ | ⟨hst, hjk, hxj, hS⟩
                          · have HS := hide hS
                            have hgiI : (gf : Int) ≤ i := Int.ofNat_le.2 hgi
                            clear hS
                            go_wp2
                            go_roundw
                            case rel => exact ⟨i + 1, j, d, hlt, by simp, rfl, Nat.le_succ_of_le hji, unhide HS, rfl⟩
                            case measure => go_light; simp [intOf]; omega
                          · have HS := hide hS
                            obtain ⟨c0, c1, c2, c3, c4, c5⟩ := (unhide HL18).cells hxj (j * 6) (Nat.mul_comm _ _)
                            have hjI : (j : Int) < gk := Int.ofNat_lt.2 hjk
                            have hjD : decide ((gk : Int) ≤ (j : Int)) = false := decide_eq_false (Int.not_le.2 hjI)
                            have hjE : decide (gk ≤ j) = false := decide_eq_false (Nat.not_le.2 hjk)
                            clear hS c1 c2 c3 c4 hxj
                            rcases hst with hig | ⟨hig, rfl⟩
                            · have higI : (i : Int) < gf := Int.ofNat_lt.2 hig
                              have higD : decide ((gf : Int) ≤ (i : Int)) = false := decide_eq_false (Int.not_le.2 higI)
                              have higE : decide (gf ≤ i) = false := decide_eq_false (Nat.not_le.2 hig)
                              cases ti' with
                              | true =>
                                go_wp2_with fail
                                go_quiet (fail)
                                go_wp2
                                go_roundw
                                case rel => exact ⟨i + 1, j + 1, _, hlt, by simp, by simp, Nat.succ_le_succ hji, unhide HS, by first | rfl | simp⟩
                                case measure => go_light; simp [intOf]; omega
                              | false =>
                                go_wp2_with fail
                                go_quiet (fail)
                                go_wp2
                                go_roundw
                                case rel => exact ⟨i + 1, j + 1, _, hlt, by simp, by simp, Nat.succ_le_succ hji, unhide HS, by first | rfl | simp⟩
                                case measure => go_light; simp [intOf]; omega
                            · have higI : (gf : Int) ≤ i := Int.ofNat_le.2 hig
                              go_wp2_with fail
                              go_quiet (fail)
                              go_wp2
                              go_roundw
                              case rel => exact ⟨i + 1, j + 1, _, hlt, by simp, by simp, Nat.succ_le_succ hji, unhide HS, by first | rfl | simp⟩
                              case measure => go_light; simp [intOf]; omega
                        · obtain rfl : i = len := Nat.le_antisymm hi hge
                          have hjg := round_last (unhide HL11) hgl (unhide HKQ) (unhide HGK) (unhide HJ)
                          subst hjg
                          go_wp2
                          go_ret
                          exact ⟨rfl, ⟨(unhide HB18).os, (unhide HB18).tape, (unhide HB18).output, (unhide HB18).size, (unhide HB18).block⟩⟩
end Go.Proofs.YbulkblmiDoor
