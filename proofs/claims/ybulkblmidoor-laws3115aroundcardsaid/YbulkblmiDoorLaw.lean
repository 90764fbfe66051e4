/-
  LawS3115ARound, walked: the seed stays.
-/
import Derived.Test.YbulkblmiDoorParts
import Derived.Test.YbulkblmiDoorNew
import Derived.Test.YbulkblmiDoorNext
import Derived.Test.YbulkblmiDoorLay
import Derived.Test.YbulkblmiDoorEnds
import Derived.Test.YbulkblmiDoorPick
import Derived.Deep.Light
import Derived.Deep.QuietTactic
import Derived.BigQuiet
namespace Go.Proofs.YbulkblmiDoor
open Go.RowKit

theorem orMapL {a b c : Prop} (h : a ∨ b) (f : b → c) : a ∨ c := by
  rcases h with h | h
  · exact .inl h
  · exact .inr (f h)


abbrev inCells (K Nx Fr IL Ps En NN Mk SE GF : Nat) (hs ti ta : Bool) : Array Value := #[.int .u8 K, .int .u8 Nx, .int .u8 Fr, .int .u8 IL, .int .u8 Ps, .int .u8 En, .int .u8 NN, .int .u8 Mk, .int .u8 SE, .int .u8 GF, .bool hs, .bool ti, .bool ta]

theorem info26 : (Ybad.prog.info? 26).map (fun i => (i.zero, i.size, i.bytes)) = some (some (.pointer none), 1, 8) := by kernel_rfl
theorem info5 : (Ybad.prog.info? 5).map (fun i => (i.zero, i.size, i.bytes)) = some (some (.int .u8 0), 1, 1) := by kernel_rfl
theorem info43b : (Ybad.prog.info? 43).map (fun i => (i.zero, i.size, i.bytes)) = some (some (.agg #[.int .i64 0, .pointer none, .int .i64 0, .pointer none, .int .i64 0, .bool false]), 6, 48) := by kernel_rfl

theorem Fill.step2 {w : World} {b k i : Nat} {t : TypeId} (h : Fill w b t k i) (hi : i < k) (o : Obj) : Fill ((w.setCell ⟨b, i, none⟩ (.pointer (some ⟨w.heap.size, 0, none⟩))).alloc o) b t k (i + 1) := by
  obtain ⟨cs, hb, hs, hc⟩ := h
  refine ⟨_, (hb.set i _).alloc o, by simpa using hs, fun j hj => ?_⟩
  by_cases hji : j = i
  · subst hji
    exact ⟨w.heap.size, by rw [Array.getElem?_setIfInBounds_self_of_lt (by omega)]⟩
  · obtain ⟨x, hx⟩ := hc j (by omega)
    exact ⟨x, by rw [Array.getElem?_setIfInBounds_ne (fun e => hji e.symm)]; exact hx⟩

set_option maxRecDepth 100000 in
set_option maxHeartbeats 8000000 in
theorem law_walkA (K Nx Fr IL Ps En NN Mk SE GF : Nat) (hs ti ta : Bool) (ao : Option Addr) (len cap : Nat) (w : World) (hK : K < 256) (hNx : Nx < 256) (hFr : Fr < 256) (hIL : IL < 256) (hPs : Ps < 256) (hEn : En < 256) (hNN : NN < 256) (hMk : Mk < 256) (hSE : SE < 256) (hGF : GF < 256) (hlen : len ≤ 1024) (tk : List Bool) (htl : tk.length = len) (hArg : len = 0 ∨ ∃ tb q0, ao = some ⟨tb, q0, none⟩ ∧ tb < w.heap.size ∧ ∀ j, j < len → w.cell? ⟨tb, q0 + j, none⟩ = some (.bool (tk.getD j false)))
    (k L pos ed nN mark gf nx fr : Nat) (ek : (1 : Int) + (K : Int) % 5 = k) (eL : (IL : Int) % 40 = L) (ep : (Ps : Int) % ((L : Int) + 1) = pos) (ee : (pos : Int) + (En : Int) % ((L : Int) - pos + 1) = ed) (en : (NN : Int) % 6 = nN) (em : (Mk : Int) % ((nN : Int) + 1) = mark) (eg : (GF : Int) % ((len : Int) + 1) = gf) (ex : (Nx : Int) % (k : Int) = nx) (ef : (Fr : Int) % ((k : Int) + 1) = fr) (hsc : hs = true ∧ ed ≤ SE) :
    Calls Ybad.prog 3 #[.agg (inCells K Nx Fr IL Ps En NN Mk SE GF hs ti ta), .slice ao len cap] w fun r w' => r = .returned (.bool true) ∧ Below w.heap.size w w' := by
  have hk1 : 1 ≤ k := by omega
  have hk5 : k ≤ 5 := by omega
  have hL40 : L < 40 := by omega
  have hpL : pos ≤ L := by have := Int.emod_lt_of_pos (Ps : Int) (show (0 : Int) < (L : Int) + 1 by omega); omega
  have hnN6 : nN ≤ 5 := by omega
  have hmN : mark ≤ nN := by have := Int.emod_lt_of_pos (Mk : Int) (show (0 : Int) < (nN : Int) + 1 by omega); omega
  have hgl : gf ≤ len := by have := Int.emod_lt_of_pos (GF : Int) (show (0 : Int) < (len : Int) + 1 by omega); omega
  have hLp : (0 : Int) < (L : Int) - pos + 1 := by omega
  have hpe : pos ≤ ed := by have := Int.emod_nonneg (En : Int) (show (L : Int) - pos + 1 ≠ 0 by omega); omega
  have heL : ed ≤ L := by have := Int.emod_lt_of_pos (En : Int) hLp; omega
  have hxk : nx < k := by have := Int.emod_lt_of_pos (Nx : Int) (show (0 : Int) < (k : Int) by omega); omega
  have hfk : fr ≤ k := by have := Int.emod_lt_of_pos (Fr : Int) (show (0 : Int) < (k : Int) + 1 by omega); omega
  have hSE2 : SE < 256 := hSE
  have HSC := hide hsc
  clear hsc
  have htl2 : tk.length = len := htl
  have HARG := hide hArg
  clear hArg
  obtain ⟨i26, h26, z26a, z26b, z26c⟩ := info_parts info26
  obtain ⟨i5, h5, z5a, z5b, z5c⟩ := info_parts info5
  obtain ⟨i33, h33, z33a, z33b, z33c⟩ := info_parts info33
  obtain ⟨i43, h43, z43a, z43b, z43c⟩ := info_parts info43b
  go_enter Ybad.func3, Ybad.ntmps3
  go_upto_region 4 with fail
  have hIn1 := Blk.new w (inCells K Nx Fr IL Ps En NN Mk SE GF hs ti ta) 23
  have hB1 : Below w.heap.size w (w.alloc (.cells (inCells K Nx Fr IL Ps En NN Mk SE GF hs ti ta) 23)) := (Below.refl _ w).alloc (Nat.le_refl _) _
  obtain ⟨w1, hw1⟩ : ∃ w1, w.alloc (.cells (inCells K Nx Fr IL Ps En NN Mk SE GF hs ti ta) 23) = w1 := ⟨_, rfl⟩
  rw [hw1] at hIn1 hB1 ⊢
  clear hw1
  have HI1 := hide hIn1
  have HB1 := hide hB1
  have hwl : w.heap.size < w1.heap.size := hIn1.lt
  clear hIn1 hB1
  obtain ⟨ab, hab⟩ : ∃ ab, w1.heap.size = ab := ⟨_, rfl⟩
  go_wp2_with (at_make; refine wpList_make_full _ rfl _ _ 25 rfl w1.heap.size 26 i26 (.pointer none) 1 Ybad.underlying25 h26 z26a z26b _ _ _ _ k rfl rfl rfl rfl (by rw [z26c]; omega) (by unfold maxLen; omega) (Nat.le_refl _) ?_)
  intro w2 hrow2 hgr2
  have hF2 := hide (Fill.start hrow2)
  have hT2 : Hid (Turns w1 w2 (fun _ => False)) := (Turns.refl w1 _).grown hgr2 (fun k e => by cases e)
  clear hrow2 hgr2
  go_upto_block 0 with fail
  go_cut [7] from 32 to 52 (fun t wc => t = .int .i64 k ∧ Fill wc ab 26 k k ∧ Turns w2 wc (fun b => b = ab))
  case first =>
    go_wp2_with fail
    go_loopw [7] (fun v wr => ∃ i : Nat, i ≤ k ∧ v = .int .i64 i ∧ Hid (Fill wr ab 26 k i) ∧ Hid (Turns w2 wr (fun b => b = ab))) (fun v _ => k - (intOf v).toNat)
    case atStart => exact ⟨0, Nat.zero_le _, rfl, hF2, Turns.refl _ _⟩
    case round =>
      obtain ⟨i, hi, rfl, HF, HT⟩ := hrel
      by_cases hlt : i < k
      · obtain ⟨v0, c0⟩ := (unhide HF).there hlt
        have z0 := (unhide HF).frozen i
        have hbl := (unhide HF).lt
        go_wp2
        go_roundw
        case rel => exact ⟨i + 1, hlt, by simp, (unhide HF).step2 hlt _, ((unhide HT).setCell (p := ⟨ab, i, none⟩) (.inl rfl) _).alloc _⟩
        case measure => go_light; simp [intOf]; omega
      · obtain rfl : i = k := by go_light; omega
        go_wp2
        go_meet
        case rel => exact ⟨rfl, unhide HF, unhide HT⟩
  case rest =>
    obtain ⟨rfl, hF3, hT23⟩ := hcut
    obtain ⟨w3, hw3⟩ : ∃ w3, w3 = wc := ⟨_, rfl⟩
    subst hw3
    have hT13 : Turns w1 w3 (fun b => b = ab) := ((unhide hT2).mono (fun _ _ h => h.elim)).trans (hT23.mono (fun _ _ h => .inl h))
    have hI3 := (unhide HI1).turns hT13 (by omega)
    have hB3 : Below w.heap.size w w3 := (unhide HB1).trans (hT13.to_below (by omega) (fun k e => by omega))
    have d3 := hI3.cell 3 rfl
    have hab3 := hF3.lt
    have HF3 := hide hF3
    have HI3 := hide hI3
    have HB3 := hide hB3
    clear hF3 hT23 hT13 hI3 hB3 hF2 hT2 HI1 HB1
    obtain ⟨bb, hbb⟩ : ∃ bb, w3.heap.size = bb := ⟨_, rfl⟩
    go_upto_region 10 with fail
    simp only [eL]
    go_wp2_with (at_make; refine wpList_make_full _ rfl _ _ 31 rfl w3.heap.size 5 i5 (.int .u8 0) 1 Ybad.underlying31 h5 z5a z5b _ _ _ _ L rfl rfl rfl rfl (by rw [z5c]; omega) (by unfold maxLen; omega) (Nat.le_refl _) ?_)
    intro w4 hrow4 hgr4
    have hF4 : Hid (Byt w4 bb L) := by
      have h := hrow4
      rw [toList_madeCells_one] at h
      exact Byt.start h
    have hT4 : Hid (Turns w3 w4 (fun _ => False)) := (Turns.refl w3 _).grown hgr4 (fun k e => by cases e)
    clear hrow4 hgr4
    go_upto_block 2 with fail
    go_cut [10] from 53 to 70 (fun t wc => t = .int .i64 L ∧ Byt wc bb L ∧ Turns w4 wc (fun b => b = bb))
    case first =>
      go_wp2_with fail
      go_loopw [10] (fun v wr => ∃ i : Nat, i ≤ L ∧ v = .int .i64 i ∧ Hid (Byt wr bb L) ∧ Hid (Turns w4 wr (fun b => b = bb))) (fun v _ => L - (intOf v).toNat)
      case atStart => exact ⟨0, Nat.zero_le _, rfl, hF4, Turns.refl _ _⟩
      case round =>
        obtain ⟨i, hi, rfl, HF, HT⟩ := hrel
        by_cases hlt : i < L
        · obtain ⟨v0, c0⟩ := (unhide HF).there hlt
          have z0 := (unhide HF).frozen i
          go_wp2
          go_roundw
          case rel => exact ⟨i + 1, hlt, by simp, (unhide HF).step i _, (unhide HT).setCell (p := ⟨bb, i, none⟩) (.inl rfl) _⟩
          case measure => go_light; simp [intOf]; omega
        · obtain rfl : i = L := by go_light; omega
          go_wp2
          go_meet
          case rel => exact ⟨rfl, unhide HF, unhide HT⟩
    case rest =>
      obtain ⟨rfl, hF5, hT45⟩ := hcut
      obtain ⟨w5, hw5⟩ : ∃ w5, w5 = wc := ⟨_, rfl⟩
      subst hw5
      have hT35 : Turns w3 w5 (fun b => b = bb) := ((unhide hT4).mono (fun _ _ h => h.elim)).trans (hT45.mono (fun _ _ h => .inl h))
      have hI5 := (unhide HI3).turns hT35 (by omega)
      have hA5 := (unhide HF3).turns hT35 (by omega)
      have hB5 : Below w.heap.size w w5 := (unhide HB3).trans (hT35.to_below (by omega) (fun k e => by omega))
      obtain ⟨inp, hinp, hconv⟩ := hF5.string
      have hs5 : w3.heap.size ≤ w5.heap.size := hT35.2.2.2.1
      have d4 := hI5.cell 4 rfl
      have d5 := hI5.cell 5 rfl
      have d6 := hI5.cell 6 rfl
      have HI5 := hide hI5
      have HA5 := hide hA5
      have HB5 := hide hB5
      clear hF5 hT45 hT35 hI5 hA5 hB5 hF4 hT4 HI3 HF3 HB3 d3
      obtain ⟨nb, hnb⟩ : ∃ nb, w5.heap.size = nb := ⟨_, rfl⟩
      go_upto_region 17 with fail
      simp only [ep]
      go_upto_region 18 with fail
      go_upto_region 19 with fail
      simp only [en]
      go_wp2_with (at_make; refine wpList_make_full _ rfl _ _ 32 rfl w5.heap.size 33 i33 (.pointer none) 1 Ybad.underlying32 h33 z33a z33b _ _ _ _ nN rfl rfl rfl rfl (by rw [z33c]; omega) (by unfold maxLen; omega) (Nat.le_refl _) ?_)
      intro w6 hrow6 hgr6
      have hF6 := hide (Fill.start hrow6)
      have hT6 : Hid (Turns w5 w6 (fun _ => False)) := (Turns.refl w5 _).grown hgr6 (fun k e => by cases e)
      clear hrow6 hgr6
      go_upto_block 4 with fail
      go_cut [16] from 71 to 105 (fun t wc => t = .int .i64 nN ∧ Fill wc nb 33 nN nN ∧ Turns w6 wc (fun b => b = nb))
      case first =>
        go_wp2_with fail
        go_loopw [16] (fun v wr => ∃ i : Nat, i ≤ nN ∧ v = .int .i64 i ∧ Hid (Fill wr nb 33 nN i) ∧ Hid (Turns w6 wr (fun b => b = nb))) (fun v _ => nN - (intOf v).toNat)
        case atStart => exact ⟨0, Nat.zero_le _, rfl, hF6, Turns.refl _ _⟩
        case round =>
          obtain ⟨i, hi, rfl, HF, HT⟩ := hrel
          by_cases hlt : i < nN
          · obtain ⟨v0, c0⟩ := (unhide HF).there hlt
            have z0 := (unhide HF).frozen i
            have hbl := (unhide HF).lt
            go_wp2
            go_roundw
            case rel => exact ⟨i + 1, hlt, by simp, (unhide HF).step2 hlt _, ((unhide HT).setCell (p := ⟨nb, i, none⟩) (.inl rfl) _).alloc _⟩
            case measure => go_light; simp [intOf]; omega
          · obtain rfl : i = nN := by go_light; omega
            go_wp2
            go_meet
            case rel => exact ⟨rfl, unhide HF, unhide HT⟩
      case rest =>
        obtain ⟨rfl, hF7, hT67⟩ := hcut
        obtain ⟨w7, hw7⟩ : ∃ w7, w7 = wc := ⟨_, rfl⟩
        subst hw7
        have hT57 : Turns w5 w7 (fun b => b = nb) := ((unhide hT6).mono (fun _ _ h => h.elim)).trans (hT67.mono (fun _ _ h => .inl h))
        have hI7 := (unhide HI5).turns hT57 (by omega)
        have hA7 := (unhide HA5).turns hT57 (by omega)
        have hB7 : Below w.heap.size w w7 := (unhide HB5).trans (hT57.to_below (by omega) (fun k e => by omega))
        have hnbl := hF7.lt
        obtain ⟨xs, hrow7, hxl, hxp⟩ := hF7.row (B := w.heap.size) (by omega) (by omega)
        have hs7 : w5.heap.size ≤ w7.heap.size := hT57.2.2.2.1
        have HI7 := hide hI7
        have HA7 := hide hA7
        have HB7 := hide hB7
        have HR7 := hide hrow7
        have HXP := hide hxp
        have HXL := hide hxl
        clear hF7 hT67 hT57 hI7 hA7 hB7 hF6 hT6 HI5 HA5 HB5 d4 d5 d6 hrow7 hxp hxl hconv
        obtain ⟨ob, hob⟩ : ∃ ob, w7.heap.size = ob := ⟨_, rfl⟩
        go_wp2_with (at_make; refine wpList_make_full _ rfl _ _ 32 rfl w7.heap.size 33 i33 (.pointer none) 1 Ybad.underlying32 h33 z33a z33b _ _ _ _ nN rfl rfl rfl rfl (by rw [z33c]; omega) (by unfold maxLen; omega) (Nat.le_refl _) ?_)
        intro w8 hrow8 hgr8
        have hT78 : Turns w7 w8 (fun _ => False) := (Turns.refl w7 _).grown hgr8 (fun k e => by cases e)
        have hR78 := row_turns (unhide HR7) hT78 (fun _ _ h => h)
        obtain ⟨w9, hrun9, hrow9, hgr9⟩ := run_copy_rows (P := Ybad.prog) 32 3 33 1 ob nN nN nb nN ob w.heap.size _ xs Ybad.underlying32 (by kernel_rfl) hrow8 hR78 (fun v hv => by obtain ⟨x, rfl⟩ := unhide HXP v hv; rfl)
        have hT89 : Turns w8 w9 (fun b => b = ob) := (Turns.refl w8 _).grown hgr9 (fun k e => .inl (Option.some.inj e).symm)
        have hT79 : Turns w7 w9 (fun b => b = ob) := (hT78.mono (fun _ _ h => h.elim)).trans (hT89.mono (fun _ _ h => .inl h))
        have hI9 := (unhide HI7).turns hT79 (by omega)
        have hA9 := (unhide HA7).turns hT79 (by omega)
        have hR9 := row_turns (unhide HR7) hT79 (fun k hk e => by simp [Value.ownBlock] at hk; omega)
        have hB9 : Below w.heap.size w w9 := (unhide HB7).trans (hT79.to_below (by omega) (fun k e => by omega))
        have hobl := ownsRow_block hrow9
        have d7 := hI9.cell 7 rfl
        have d9 := hI9.cell 9 rfl
        have HI9 := hide hI9
        have HA9 := hide hA9
        have HB9 := hide hB9
        have HR9 := hide hR9
        have HO9 := hide hrow9
        clear hrow8 hgr8 hT78 hR78 hrow9 hgr9 hT89 hT79 hI9 hA9 hR9 hB9 HI7 HA7 HB7 HR7
        go_upto_region 27 with fail
        simp only [em]
        go_upto_region 28 with fail
        simp only [eg]
        have hs9 : w7.heap.size ≤ w9.heap.size := by omega
        obtain ⟨grb, hgrb⟩ : ∃ grb, w9.heap.size = grb := ⟨_, rfl⟩
        go_wp2_with (at_make; refine wpList_make_full _ rfl _ _ 36 rfl w9.heap.size 43 i43 _ 6 Ybad.underlying36 h43 z43a z43b _ _ _ _ len rfl rfl rfl rfl (by rw [z43c]; omega) (by unfold maxLen; omega) (Nat.le_refl _) ?_)
        intro w10 hrow10 hgr10
        have hG10 : GR w10 grb (List.replicate len (0, false)) := GR.start hrow10
        have hT10 : Turns w9 w10 (fun _ => False) := (Turns.refl w9 _).grown hgr10 (fun k e => by cases e)
        have hTK : len = 0 ∨ ∃ tb q0, ao = some ⟨tb, q0, none⟩ ∧ tb < w.heap.size ∧ ∀ j, j < len → w10.cell? ⟨tb, q0 + j, none⟩ = some (.bool (tk.getD j false)) := by
          refine orMapL (unhide HARG) ?_
          rintro ⟨tb, q0, h1, h2, h3⟩
          refine ⟨tb, q0, h1, h2, fun j hj => ?_⟩
          have hb := (unhide HB9).cell (p := ⟨tb, q0 + j, none⟩) h2
          exact (hT10.cell (p := ⟨tb, q0 + j, none⟩) (by show tb < w9.heap.size; omega) (fun h => h)).trans (hb.trans (h3 j hj))
        have HG10 := hide hG10
        have HT10 := hide hT10
        have HTK := hide hTK
        clear hrow10 hgr10 hG10 hT10 hTK hrun9
        go_upto_block 6 with fail
        go_cut [21] from 106 to 141 (fun t wc => t = .int .i64 len ∧ (∃ l, GR wc grb l ∧ l.length = len ∧ ∀ j, j < len → l[j]? = some (j, tk.getD j false)) ∧ Turns w10 wc (fun b => b = grb))
        case first =>
          go_wp2_with fail
          go_loopw [21] (fun v wr => ∃ (i : Nat) (l : List (Nat × Bool)), i ≤ len ∧ v = .int .i64 i ∧ Hid (GR wr grb l) ∧ Hid (l.length = len) ∧ Hid (∀ j, j < i → l[j]? = some (j, tk.getD j false)) ∧ Hid (Turns w10 wr (fun b => b = grb))) (fun v _ => len - (intOf v).toNat)
          case atStart => exact ⟨0, _, Nat.zero_le _, rfl, HG10, List.length_replicate, fun j hj => absurd hj (Nat.not_lt_zero _), Turns.refl _ _⟩
          case round =>
            obtain ⟨i, l, hi, rfl, HG, HL, HV, HT⟩ := hrel
            by_cases hlt : i < len
            · rcases unhide HTK with h0 | ⟨tb, q0, rfl, htb, hcell⟩
              · exact absurd hlt (by rw [h0]; exact Nat.not_lt_zero _)
              have hw10 : w.heap.size ≤ w10.heap.size := by have := (unhide HT10).2.2.2.1; omega
              have t0 := ((unhide HT).cell (p := ⟨tb, q0 + i, none⟩) (by show tb < w10.heap.size; omega) (by show ¬ tb = grb; omega)).trans (hcell i hlt)
              obtain ⟨⟨r', t'⟩, hxi⟩ : ∃ x, l[i]? = some x := ⟨_, List.getElem?_eq_getElem (by rw [unhide HL]; exact hlt)⟩
              obtain ⟨c0, c1, c2, c3, c4, c5⟩ := (unhide HG).cells hxi (i * 6) (by omega)
              have y0 := (unhide HG).frozen (i * 6)
              have y1 := (unhide HG).frozen (i * 6 + 1)
              have y2 := (unhide HG).frozen (i * 6 + 2)
              have y3 := (unhide HG).frozen (i * 6 + 3)
              have y4 := (unhide HG).frozen (i * 6 + 4)
              have y5 := (unhide HG).frozen (i * 6 + 5)
              obtain ⟨ti', htq⟩ : ∃ ti', tk.getD i false = ti' := ⟨_, rfl⟩
              rw [htq] at t0
              have HTQ := hide htq
              clear hcell hxi htq
              go_wp2
              go_roundw
              case rel =>
                refine ⟨i + 1, l.set i (i, ti'), hlt, by simp, (unhide HG).set i i ti' (by rw [unhide HL]; exact hlt) (i * 6) (by omega), (List.length_set).trans (unhide HL), fun j hj => ?_, ((((((unhide HT).setCell (p := ⟨grb, i * 6, none⟩) (.inl rfl) _).setCell (p := ⟨grb, i * 6 + 1, none⟩) (.inl rfl) _).setCell (p := ⟨grb, i * 6 + 2, none⟩) (.inl rfl) _).setCell (p := ⟨grb, i * 6 + 3, none⟩) (.inl rfl) _).setCell (p := ⟨grb, i * 6 + 4, none⟩) (.inl rfl) _).setCell (p := ⟨grb, i * 6 + 5, none⟩) (.inl rfl) _⟩
                by_cases hji : j = i
                · subst hji
                  rw [List.getElem?_set_self (by rw [unhide HL]; exact hlt), unhide HTQ]
                · rw [List.getElem?_set_ne (fun e => hji e.symm)]
                  exact unhide HV j (by omega)
              case measure => go_light; simp [intOf]; omega
            · obtain rfl : i = len := by go_light; omega
              go_wp2
              go_meet
              case rel => exact ⟨rfl, ⟨l, unhide HG, unhide HL, unhide HV⟩, unhide HT⟩
        case rest =>
          obtain ⟨rfl, ⟨l, hG11, hL11, hV11⟩, hT1011⟩ := hcut
          obtain ⟨w11, hw11⟩ : ∃ w11, w11 = wc := ⟨_, rfl⟩
          subst hw11
          have hT911 : Turns w9 w11 (fun b => b = grb) := ((unhide HT10).mono (fun _ _ h => h.elim)).trans (hT1011.mono (fun _ _ h => .inl h))
          have hI11 := (unhide HI9).turns hT911 (by omega)
          have hA11 := (unhide HA9).turns hT911 (by omega)
          have hR11 := row_turns (unhide HR9) hT911 (fun k hk e => by simp [Value.ownBlock] at hk; omega)
          have hO11 := row_turns (unhide HO9) hT911 (fun k hk e => by simp [Value.ownBlock] at hk; omega)
          have hB11 : Below w.heap.size w w11 := (unhide HB9).trans (hT911.to_below (by omega) (fun k e => by omega))
          have hgrl := hG11.lt
          have d10 := hI11.cell 10 rfl
          have d8 := hI11.cell 8 rfl
          have HI11 := hide hI11
          have HA11 := hide hA11
          have HR11 := hide hR11
          have HO11 := hide hO11
          have HB11 := hide hB11
          have HG11 := hide hG11
          have HL11 := hide hL11
          have HV11 := hide hV11
          clear hT911 hT1011 hI11 hA11 hR11 hO11 hB11 hG11 hL11 hV11 HI9 HA9 HR9 HO9 HB9 HG10 HT10 d7 d9
          go_upto_if 143 with fail
          go_cut [22] from 142 to 148 (fun t wc => ∃ q, t = .pointer q ∧ Turns w11 wc (fun _ => False) ∧ ((hs = false ∧ q = none) ∨ (hs = true ∧ q = some ⟨w11.heap.size, 0, none⟩ ∧ Blk wc w11.heap.size #[strR, .int .i64 0, .int .i64 SE, .string ByteArray.empty, .slice none 0 0] 35)))
          case first =>
            cases hs with
            | true =>
              go_wp2
              go_meet
              case rel => exact ⟨_, rfl, (Turns.refl _ _).alloc _, .inr ⟨trivial, rfl, Blk.new _ _ _⟩⟩
            | false =>
              go_wp2
              go_meet
              case rel => exact ⟨_, rfl, Turns.refl _ _, .inl ⟨trivial, rfl⟩⟩
          case rest =>
            obtain ⟨q, rfl, hT12, hq12⟩ := hcut
            obtain ⟨w12, hw12⟩ : ∃ w12, w12 = wc := ⟨_, rfl⟩
            subst hw12
            have hI12 := (unhide HI11).turns hT12 (fun h => h)
            have hA12 := (unhide HA11).turns hT12 (fun h => h)
            have hR12 := row_turns (unhide HR11) hT12 (fun _ _ h => h)
            have hO12 := row_turns (unhide HO11) hT12 (fun _ _ h => h)
            have hB12 : Below w.heap.size w w12 := (unhide HB11).trans (hT12.to_below (by omega) (fun k e => e.elim))
            have hG12 := (unhide HG11).turns hT12 (fun h => h)
            have hs12 : w11.heap.size ≤ w12.heap.size := hT12.2.2.2.1
            have hwl12 : w.heap.size < w12.heap.size := hI12.lt
            have d1 := hI12.cell 1 rfl
            have d2 := hI12.cell 2 rfl
            have d11 := hI12.cell 11 rfl
            have HI12 := hide hI12
            have HA12 := hide hA12
            have HR12 := hide hR12
            have HO12 := hide hO12
            have HB12 := hide hB12
            have HG12 := hide hG12
            have HQ12 := hide hq12
            clear hT12 hq12 hI12 hA12 hR12 hO12 hB12 hG12 HI11 HA11 HR11 HO11 HB11 HG11 d10 d8
            go_upto_region 37 with fail
            simp only [ex]
            go_upto_region 38 with fail
            simp only [ef]
            go_upto_region 40 with fail
            obtain ⟨w13, hw13, hLaid, hT13, hs13⟩ := lay_all (w := w) (ab := ab) (k := k) (mark := mark) (gf := gf) (pos := pos) (nx := nx) (fr := fr) (inp := inp) (q := q) (ti := ti) (unhide HR12) (unhide HXP) (unhide HG12) (unhide HL11) hgl hlen hnN6 hmN hk5 (by omega) (by omega) (by omega) (by omega)
            rw [hw13]
            have hI13 := (unhide HI12).turns hT13 (fun h => h)
            have hA13 := (unhide HA12).turns hT13 (fun h => h)
            have hO13 := row_turns (unhide HO12) hT13 (fun _ _ h => h)
            have hB13 : Below w.heap.size w w13 := (unhide HB12).trans (hT13.to_below (by omega) (fun k e => e.elim))
            have hcase : ((hs = true ∧ ed ≤ SE) ∧ ∃ sd : Nat, q = some ⟨sd, 0, none⟩ ∧ Blk w13 sd #[strR, .int .i64 0, .int .i64 SE, .string ByteArray.empty, .slice none 0 0] 35 ∧ grb < sd ∧ sd < w12.heap.size ∧ ed ≤ SE) ∨
                (¬ (hs = true ∧ ed ≤ SE) ∧ (Value.pointer q = .pointer none ∨ ∃ (sd : Nat) (se : Int), Value.pointer q = .pointer (some ⟨sd, 0, none⟩) ∧ w13.cell? ⟨sd, 2, none⟩ = some (.int .i64 se) ∧ se < ed ∧ grb < sd ∧ sd < w12.heap.size)) := by
              rcases unhide HQ12 with ⟨hs0, rfl⟩ | ⟨hsT, rfl, hSd⟩
              · exact .inr ⟨fun h => Bool.noConfusion (hs0.symm.trans h.1), .inl rfl⟩
              · have hSd' := hSd.turns hT13 (fun h => h)
                have hsl := hSd.lt
                by_cases hle : ed ≤ SE
                · exact .inl ⟨⟨hsT, hle⟩, w11.heap.size, rfl, hSd', by omega, hsl, hle⟩
                · exact .inr ⟨fun h => hle h.2, .inr ⟨w11.heap.size, SE, rfl, hSd'.cell 2 rfl, by omega, by omega, hsl⟩⟩
            clear hw13
            obtain ⟨fb, hfb⟩ : ∃ fb, w12.heap.size + 1 + 1 + 1 + 1 = fb := ⟨_, rfl⟩
            obtain ⟨eb, heb⟩ : ∃ eb, w12.heap.size + 1 + 1 + 1 = eb := ⟨_, rfl⟩
            obtain ⟨pb, hpb⟩ : ∃ pb, w12.heap.size + 1 + 1 = pb := ⟨_, rfl⟩
            obtain ⟨gb, hgb⟩ : ∃ gb, w12.heap.size + 1 = gb := ⟨_, rfl⟩
            rw [hfb, heb, hpb, hgb] at hLaid
            rw [hfb, hpb]
            have hwab : w.heap.size < ab := by omega
            have hwob : nb < ob ∧ ob < grb := by omega
            have hs13' : fb < w13.heap.size := by omega
            have hord : gb < pb ∧ pb < fb ∧ grb < gb ∧ w12.heap.size < gb := by omega
            have d12 := hI13.cell 12 rfl
            have HI13 := hide hI13
            have HA13 := hide hA13
            have HO13 := hide hO13
            have HB13 := hide hB13
            have HLAID := hide hLaid
            have HCASE := hide hcase
            clear hI13 hA13 hO13 hB13 hLaid hcase hT13 HI12 HA12 HR12 HO12 HB12 HG12 HQ12 d1 d2 d11
            go_wp2_with fail
            rcases unhide HCASE with ⟨hsA, sd, rfl, hSd, hs1, hs2, hle⟩ | ⟨hsN, hq⟩
            · refine (nextRound_seed sd ed SE ta (unhide HLAID) (hSd.cell 2 rfl) hs1 hs2 (by omega)).mono ?_
              rintro r w14 ⟨rfl, v, hP14, hr14, hT14⟩
              obtain ⟨vb, vc, rfl⟩ := ownsRow_succ hr14
              go_upto_region 41 with fail
              obtain ⟨w15, hw15, hP15, hX15, q2, qv, hvl, hpl, hB15, hwl15, hpre⟩ := seed_end hP14 hr14 hT14 hSd rfl (unhide HO13) (unhide HB13) (unhide HXP) (unhide HXL) hmN hnN6 (by omega) hwob.1 hwob.2 hs1 (by omega) (.pointer none) (.int .i64 SE) (.bool true)
              rw [hw15]
              obtain ⟨m1, hm1⟩ : ∃ m1, mark + 1 = m1 := ⟨_, rfl⟩
              have em1 : (mark : Int) + 1 = m1 := by omega
              have hmm1 : mark < m1 := by omega
              have p23 := hP15.c23
              have p5 : w15.cell? ⟨pb, 5, none⟩ = some (.slice (some ⟨vb, 0, none⟩) m1 vc) := hm1 ▸ hP15.c5
              rw [hm1] at hpre
              have p15 := hP15.c15
              have p25 := hP15.c25
              have x0 := hX15.cell 0 rfl
              have x1 := hX15.cell 1 rfl
              have x2 := hX15.cell 2 rfl
              have heq := eql33 sd
              have HPRE := hide hpre
              have HB15 := hide hB15
              have hleI : (ed : Int) ≤ SE := by omega
              have HM1 := hide hm1
              clear hm1 hw15 hP15 hX15 hpre hB15 hP14 hr14 hT14 hSd HI13 HA13 HO13 HB13 HLAID HCASE d12
              go_wp2_with fail
              go_quiet (first | (go_at_call 6; refine Calls.quiet_of (unhide HPRE _)))
              go_wp2
              go_ret
              exact ⟨rfl, ⟨(unhide HB15).os, (unhide HB15).tape, (unhide HB15).output, (unhide HB15).size, (unhide HB15).block⟩⟩
            · exact absurd (unhide HSC) hsN
end Go.Proofs.YbulkblmiDoor
