/-
  THE WALK OF zzs3113cmodel AND OF LawS3113CExact, and the plain law.
-/
import Derived.Test.YbulkbllgShare
namespace Go.Proofs.Ybulkbllg
open Go.RowKit

/-! ### The plain law: no Go in sight -/
/-- The number that the last k of sixteen bytes spell. -/
def suf (l : List Int) : Nat → Int
  | 0 => 0
  | k + 1 => suf l k + l.getD (15 - k) 0 * 256 ^ k

theorem suf_lt {l : List Int} (h : ∀ i, IsB (l.getD i 0)) : ∀ k, 0 ≤ suf l k ∧ suf l k < 256 ^ k
  | 0 => by simp [suf]
  | k + 1 => by
    obtain ⟨i1, i2⟩ := suf_lt h k
    obtain ⟨b1, b2⟩ := h (15 - k)
    have hp : (0 : Int) < 256 ^ k := Int.pow_pos (by decide)
    have e : (256 : Int) ^ (k + 1) = 256 ^ k * 256 := Int.pow_succ 256 k
    rw [suf, e]
    have m1 : 0 ≤ l.getD (15 - k) 0 * 256 ^ k := Int.mul_nonneg b1 (by omega)
    have m2 : l.getD (15 - k) 0 * 256 ^ k ≤ 255 * 256 ^ k := Int.mul_le_mul_of_nonneg_right (by omega) (by omega)
    omega

theorem suf_set (l : List Int) (x : Int) (k : Nat) : ∀ j, j ≤ k → k < 16 → suf (l.set (15 - k) x) j = suf l j
  | 0, _, _ => rfl
  | j + 1, hj, hk => by
    rw [suf, suf, suf_set l x k j (by omega) hk]
    congr 2
    simp [List.getD_eq_getElem?_getD, show 15 - k ≠ 15 - j by omega]

/-- One step of the subtraction. -/
theorem sub_step (a b D : List Int) (k : Nat) (br v br' : Int) (hk : k < 16) (hD : D.length = 16) (hs : suf D k = suf b k - suf a k + br * 256 ^ k)
    (hv : v = b.getD (15 - k) 0 - a.getD (15 - k) 0 - br + 256 * br') : suf (D.set (15 - k) v) (k + 1) = suf b (k + 1) - suf a (k + 1) + br' * 256 ^ (k + 1) := by
  rw [suf, suf, suf, suf_set D v k k (Nat.le_refl _) hk, hs]
  have e : (D.set (15 - k) v).getD (15 - k) 0 = v := by simp [List.getD_eq_getElem?_getD, show 15 - k < D.length by omega]
  rw [e, hv, Int.pow_succ]
  generalize (256 : Int) ^ k = m
  generalize b.getD (15 - k) 0 = x
  generalize a.getD (15 - k) 0 = y
  simp only [Int.sub_mul, Int.add_mul]
  have e2 : 256 * br' * m = br' * (m * 256) := by rw [Int.mul_comm 256 br', Int.mul_assoc, Int.mul_comm 256 m]
  omega

/-- One step of the multiplication. -/
theorem mul_step (D : List Int) (k : Nat) : (D.getD (15 - k) 0 * 1000000000 + suf D k * 1000000000 / 256 ^ k) / 256 = suf D (k + 1) * 1000000000 / 256 ^ (k + 1) := by
  have hp : (256 : Int) ^ k ≠ 0 := Int.pow_ne_zero (by decide)
  have hp0 : (0 : Int) ≤ 256 ^ k := Int.le_of_lt (Int.pow_pos (by decide))
  rw [suf, Int.pow_succ, ← Int.ediv_ediv_of_nonneg hp0]
  congr 1
  rw [Int.add_mul, Int.mul_right_comm, Int.add_mul_ediv_right _ _ hp, Int.add_comm]

theorem suf16 (l : List Int) : suf l 16 = hiW l * 18446744073709551616 + loW l := by
  unfold hiW loW
  rw [be8_eq, be8_eq]
  simp only [suf, Nat.reduceSub]
  omega

theorem dist_mod (xa la xb lb : Int) (br D : Int) (_ : IsW xa) (h2 : IsW la) (_ : IsW xb) (h4 : IsW lb) (hb : br = 0 ∨ br = 1)
    (hD : D = (xb * 18446744073709551616 + lb) - (xa * 18446744073709551616 + la) + br * 340282366920938463463374607431768211456) (h0 : 0 ≤ D) (h5 : D < 340282366920938463463374607431768211456) :
    D = (xb - xa - bor lb la) % 18446744073709551616 * 18446744073709551616 + (lb - la) % 18446744073709551616 := by
  unfold IsW at *
  unfold bor
  by_cases h : lb < la
  · rw [if_pos h]
    rcases hb with rfl | rfl <;> omega
  · rw [if_neg h]
    rcases hb with rfl | rfl <;> omega

theorem model_value (a b D : List Int) (br : Int) (ha : Is16 a) (hb : Is16 b) (hD : ∀ i, IsB (D.getD i 0)) (hbr : br = 0 ∨ br = 1) (hs : suf D 16 = suf b 16 - suf a 16 + br * 256 ^ 16) :
    suf D 16 * 1000000000 / 256 ^ 16 = shareN a b := by
  have hr := suf_lt hD 16
  have hp : (256 : Int) ^ 16 = 340282366920938463463374607431768211456 := by decide
  rw [hp] at hs hr ⊢
  rw [suf16 a, suf16 b] at hs
  have e := dist_mod (hiW a) (loW a) (hiW b) (loW b) br (suf D 16) (hiW_word ha) (loW_word ha) (hiW_word hb) (loW_word hb) hbr hs hr.1 hr.2
  rw [e]
  rfl

theorem carry_lt (D : List Int) (k : Nat) (hD : ∀ i, IsB (D.getD i 0)) : 0 ≤ suf D k * 1000000000 / 256 ^ k ∧ suf D k * 1000000000 / 256 ^ k < 1000000000 := by
  obtain ⟨h1, h2⟩ := suf_lt hD k
  have hp : (0 : Int) < 256 ^ k := Int.pow_pos (by decide)
  constructor
  · exact Int.ediv_nonneg (by omega) (by omega)
  · apply Int.ediv_lt_of_lt_mul hp
    rw [Int.mul_comm 1000000000]
    exact Int.mul_lt_mul_of_pos_right h2 (by decide)

/-! ### The walks -/
theorem size22' : (Yba.prog.info? 22).map (·.size) = some 16 := by kernel_rfl
theorem size22_bv' {l : List Int} (h : l.length = 16) : (Yba.prog.info? 22).map (·.size) = some (bv l).size := by rw [bv_size, h]; exact size22'

theorem set_block {w : World} {g i : Nat} {l : List Int} {x : Int} (h : w.heap[g]? = some (.cells (bv l) 22 (0, 0))) :
    (w.setCell ⟨g, i, none⟩ (.int .u8 x)).heap[g]? = some (.cells (bv (l.set i x)) 22 (0, 0)) := by
  rw [setCell_eq_setRow w g i (bv l) 22 (0, 0) _ h, setRow_heap w g (bv l) _ 22 _ h]
  simp [bv, List.map_set]

/-- What holds of the digits so far, the index of the next being z. -/
structure SubInv (a b D : List Int) (z r : Int) : Prop where
  len : D.length = 16
  byte : ∀ i, IsB (D.getD i 0)
  val : suf D (15 - z).toNat = suf b (15 - z).toNat - suf a (15 - z).toNat + r * 256 ^ (15 - z).toNat

theorem SubInv.start (a b : List Int) : SubInv a b (List.replicate 16 0) 15 0 := ⟨by simp, fun i => by
    have : (List.replicate 16 (0 : Int)).getD i 0 = 0 := by
      rw [List.getD_eq_getElem?_getD, List.getElem?_replicate]
      split <;> rfl
    rw [this]; exact ⟨by decide, by decide⟩, by simp [suf]⟩

theorem SubInv.step {a b D : List Int} {j : Nat} {r v r' : Int} (h : SubInv a b D (j : Int) r) (hj : j ≤ 15) (hv : v = b.getD j 0 - a.getD j 0 - r + 256 * r') (hb : IsB v) : SubInv a b (D.set j v) ((j : Int) - 1) r' := by
  obtain ⟨h1, h2, h3⟩ := h
  rw [show (15 - (j : Int)).toNat = 15 - j by omega] at h3
  have e := sub_step a b D (15 - j) r v r' (by omega) h1 h3 (by rw [show 15 - (15 - j) = j by omega]; exact hv)
  rw [show 15 - (15 - j) = j by omega] at e
  refine ⟨by simp [h1], fun i => ?_, ?_⟩
  · by_cases e : i = j
    · subst e
      have : (D.set i v).getD i 0 = v := by simp [List.getD_eq_getElem?_getD, show i < D.length by omega]
      rw [this]; exact hb
    · have : (D.set j v).getD i 0 = D.getD i 0 := by simp [List.getD_eq_getElem?_getD, show ¬ j = i from fun h => e h.symm]
      rw [this]; exact h2 i
  · rw [show (15 - ((j : Int) - 1)).toNat = 15 - j + 1 by omega]; exact e

set_option maxRecDepth 100000 in
set_option maxHeartbeats 2000000 in
theorem model_ne (a b : List Int) (w : World) (ha : Is16 a) (hb : Is16 b) (hne : a ≠ b) :
    Calls Yba.prog 6 #[.agg (bv a), .agg (bv b)] w fun e w' => e = .returned (.int .u32 (shareN a b)) ∧ Below w.heap.size w w' := by
  obtain ⟨W0, hW0⟩ : ∃ W0, ((w.alloc (.cells (bv a) 22)).alloc (.cells (bv b) 22)) = W0 := ⟨_, rfl⟩
  have hga : W0.heap[w.heap.size]? = some (.cells (bv a) 22 (0, 0)) := by rw [← hW0, Below.heap_alloc _ _ _ (by simp)]; exact heap_alloc_new w _
  have hgb : W0.heap[w.heap.size + 1]? = some (.cells (bv b) 22 (0, 0)) := by
    rw [← hW0]
    have := heap_alloc_new (w.alloc (.cells (bv a) 22)) (.cells (bv b) 22)
    rw [World.size_alloc] at this
    exact this
  have hsz : W0.heap.size = w.heap.size + 2 := by rw [← hW0]; simp
  have hbw : Below w.heap.size w W0 := by rw [← hW0]; exact ((Below.refl _ _).alloc (Nat.le_refl _) _).alloc (by simp) _
  have heq := eq_arr 22 Yba.underlying22 a b ha.len hb.len
  rw [decide_eq_false hne] at heq
  have hra : Row16 W0 w.heap.size a := Row16.of_block ha.len hga
  have hrb : Row16 W0 (w.heap.size + 1) b := Row16.of_block hb.len hgb
  have hsa := size22_bv' ha.len
  have hsb := size22_bv' hb.len
  have HA := hide ha
  have HB := hide hb
  have HRA := hide hra
  have HRB := hide hrb
  have HW0 := hide hW0
  have HGA := hide hga
  have HGB := hide hgb
  have HSZ := hide hsz
  clear hW0 ha hb hne hga hgb hra hrb hsz
  go_enter Yba.func6, Yba.ntmps6
  go_wp2_with (first | (refine wpList_load_row rfl 22 (.tmp 2) rfl w.heap.size rfl 22 (bv a) (0, 0) _ ?_ Yba.underlying22 rfl hsa ?_; rw [unhide HW0]; exact unhide HGA) | (refine wpList_load_row rfl 22 (.tmp 3) rfl (w.heap.size + 1) rfl 22 (bv b) (0, 0) _ ?_ Yba.underlying22 rfl hsb ?_; rw [unhide HW0]; exact unhide HGB))
  rw [unhide HW0]
  have hst : (W0.alloc (.cells #[.int .u8 0, .int .u8 0, .int .u8 0, .int .u8 0, .int .u8 0, .int .u8 0, .int .u8 0, .int .u8 0, .int .u8 0, .int .u8 0, .int .u8 0, .int .u8 0, .int .u8 0, .int .u8 0, .int .u8 0, .int .u8 0] 22)).heap[w.heap.size + 1 + 1]? = some (.cells (bv (List.replicate 16 0)) 22 (0, 0)) := by
    have := heap_alloc_new W0 (.cells #[.int .u8 0, .int .u8 0, .int .u8 0, .int .u8 0, .int .u8 0, .int .u8 0, .int .u8 0, .int .u8 0, .int .u8 0, .int .u8 0, .int .u8 0, .int .u8 0, .int .u8 0, .int .u8 0, .int .u8 0, .int .u8 0] 22)
    rw [unhide HSZ] at this
    rw [this]
    rfl
  have HST := hide hst
  clear hst
  go_loopw [6, 7, 8] (fun br i _ wr => ∃ (z r : Int) (D : List Int), -1 ≤ z ∧ z ≤ 15 ∧ i = .int .i64 z ∧ br = .int .i64 r ∧ 0 ≤ r ∧ r ≤ 1 ∧ Hid (wr.heap[w.heap.size + 1 + 1]? = some (.cells (bv D) 22 (0, 0))) ∧ Hid (SubInv a b D z r) ∧ Below (w.heap.size + 2) W0 wr) (fun _ i _ _ => (intOf i + 1).toNat)
  case atStart => exact ⟨15, 0, List.replicate 16 0, by decide, by decide, rfl, rfl, by decide, by decide, HST, SubInv.start a b, (Below.refl _ _).alloc (by have := unhide HSZ; omega) _⟩
  case round =>
    clear HST
    obtain ⟨z, r, D, hz0, hz1, rfl, rfl, hr0, hr1, hblk, hinv, hbe⟩ := hrel
    by_cases hz : 0 ≤ z
    · obtain ⟨j, rfl⟩ := Int.eq_ofNat_of_zero_le hz
      have hj : j ≤ 15 := by omega
      have hca : wr.cell? ⟨w.heap.size, j, none⟩ = some (.int .u8 (a.getD j 0)) := (hbe.cell (p := ⟨w.heap.size, j, none⟩) (by show w.heap.size < w.heap.size + 2; omega)).trans (unhide HRA j (by omega))
      have hcb : wr.cell? ⟨w.heap.size + 1, j, none⟩ = some (.int .u8 (b.getD j 0)) := (hbe.cell (p := ⟨w.heap.size + 1, j, none⟩) (by show w.heap.size + 1 < w.heap.size + 2; omega)).trans (unhide HRB j (by omega))
      have hcd : wr.cell? ⟨w.heap.size + 1 + 1, j, none⟩ = some (.int .u8 (D.getD j 0)) := Row16.of_block (unhide hinv).len (unhide hblk) j (by omega)
      have hfd : wr.frozen? ⟨w.heap.size + 1 + 1, j, none⟩ = false := by simp [World.frozen?, unhide hblk]
      obtain ⟨ka0, ka1⟩ := (unhide HA).byte j
      obtain ⟨kb0, kb1⟩ := (unhide HB).byte j
      have hstep := fun v r' => (unhide hinv).step (v := v) (r' := r') hj
      generalize a.getD j 0 = x at *
      generalize b.getD j 0 = y at *
      generalize D.getD j 0 = u at *
      have HSTEP := hide hstep
      have HBLK := hide hblk
      clear hstep hinv hblk
      have hbN : ∀ nq, Below (w.heap.size + 2) W0 (wr.drewN nq) := fun nq => hbe.trans ⟨rfl, rfl, rfl, Nat.le_refl _, fun _ _ => rfl⟩
      have HBN := hide hbN
      clear hbN
      by_cases hneg : y - x - r < 0
      · go_wp2
        go_quiet (fail)
        go_wp2
        go_roundw
        case rel => exact ⟨(j : Int) - 1, 1, D.set j (y - x - r + 256), by omega, by omega, rfl, rfl, by decide, by decide, set_block (w := wr.drewN nq) (unhide HBLK), unhide HSTEP _ 1 (by omega) ⟨by omega, by omega⟩, (unhide HBN nq).setCell (by show w.heap.size + 2 ≤ w.heap.size + 1 + 1; omega) _⟩
        case measure => simp [intOf]
      · go_wp2
        go_quiet (fail)
        go_wp2
        go_roundw
        case rel => exact ⟨(j : Int) - 1, 0, D.set j (y - x - r), by omega, by omega, rfl, rfl, by decide, by decide, set_block (w := wr.drewN nq) (unhide HBLK), unhide HSTEP _ 0 (by omega) ⟨by omega, by omega⟩, (unhide HBN nq).setCell (by show w.heap.size + 2 ≤ w.heap.size + 1 + 1; omega) _⟩
        case measure => simp [intOf]
    · have hz9 : z = -1 := by omega
      subst hz9
      have hval := (unhide hinv).val
      have hbyte := (unhide hinv).byte
      have hDl := (unhide hinv).len
      rw [show (15 - (-1 : Int)).toNat = 16 from rfl] at hval
      have hfin := model_value a b D r (unhide HA) (unhide HB) hbyte (by omega) hval
      have HFIN := hide hfin
      have HBYTE := hide hbyte
      have HROW : Hid (Row16 wr (w.heap.size + 1 + 1) D) := Row16.of_block hDl (unhide hblk)
      have hslt := shareN_lt a b
      clear hval hbyte hDl hfin hinv hblk
      go_wp2
      go_loop [9, 10, 11] (fun c i _ => ∃ (z q : Int), -1 ≤ z ∧ z ≤ 15 ∧ i = .int .i64 z ∧ c = .int .u64 q ∧ Hid (q = suf D (15 - z).toNat * 1000000000 / 256 ^ (15 - z).toNat)) (fun _ i _ => (intOf i + 1).toNat)
      case atStart => exact ⟨15, 0, by decide, by decide, rfl, rfl, hide (by simp [suf])⟩
      case round =>
        obtain ⟨z, q, hz0, hz1, rfl, rfl, hq⟩ := hrel
        by_cases hz2 : 0 ≤ z
        · obtain ⟨j, rfl⟩ := Int.eq_ofNat_of_zero_le hz2
          have hj : j ≤ 15 := by omega
          have hcd : wr.cell? ⟨w.heap.size + 1 + 1, j, none⟩ = some (.int .u8 (D.getD j 0)) := unhide HROW j (by omega)
          have hq' := unhide hq
          rw [show (15 - (j : Int)).toNat = 15 - j by omega] at hq'
          have hcl := carry_lt D (15 - j) (unhide HBYTE)
          have hms := mul_step D (15 - j)
          rw [show 15 - (15 - j) = j by omega, ← hq'] at hms
          rw [← hq'] at hcl
          obtain ⟨hc0, hc1⟩ := hcl
          obtain ⟨kd0, kd1⟩ := (unhide HBYTE) j
          generalize D.getD j 0 = u at *
          have HMS := hide hms
          clear hms hq' hq
          go_wp2
          go_round
          case rel => exact ⟨(j : Int) - 1, _, by omega, by omega, rfl, rfl, hide (by rw [show (15 - ((j : Int) - 1)).toNat = 15 - j + 1 by omega]; exact unhide HMS)⟩
          case measure => simp [intOf]
        · have hz9 : z = -1 := by omega
          subst hz9
          have hq' := unhide hq
          rw [show (15 - (-1 : Int)).toNat = 16 from rfl, unhide HFIN] at hq'
          subst hq'
          obtain ⟨s0, s1⟩ := hslt
          clear hq
          go_wp2
          go_ret
          exact ⟨rfl, hbw.trans (hbe.mono (by omega))⟩

set_option maxRecDepth 100000 in
set_option maxHeartbeats 2000000 in
theorem model_eq (a : List Int) (w : World) (ha : Is16 a) :
    Calls Yba.prog 6 #[.agg (bv a), .agg (bv a)] w fun e w' => e = .returned (.int .u32 1000000000) ∧ Below w.heap.size w w' := by
  obtain ⟨W0, hW0⟩ : ∃ W0, ((w.alloc (.cells (bv a) 22)).alloc (.cells (bv a) 22)) = W0 := ⟨_, rfl⟩
  have hga : W0.heap[w.heap.size]? = some (.cells (bv a) 22 (0, 0)) := by rw [← hW0, Below.heap_alloc _ _ _ (by simp)]; exact heap_alloc_new w _
  have hgb : W0.heap[w.heap.size + 1]? = some (.cells (bv a) 22 (0, 0)) := by
    rw [← hW0]
    have := heap_alloc_new (w.alloc (.cells (bv a) 22)) (.cells (bv a) 22)
    rw [World.size_alloc] at this
    exact this
  have hbw : Below w.heap.size w W0 := by rw [← hW0]; exact ((Below.refl _ _).alloc (Nat.le_refl _) _).alloc (by simp) _
  have heq := eq_arr 22 Yba.underlying22 a a ha.len ha.len
  rw [decide_eq_true rfl] at heq
  have hsa := size22_bv' ha.len
  have HW0 := hide hW0
  have HGA := hide hga
  have HGB := hide hgb
  clear hW0 ha hga hgb
  go_enter Yba.func6, Yba.ntmps6
  go_wp2_with (first | (refine wpList_load_row rfl 22 (.tmp 2) rfl w.heap.size rfl 22 (bv a) (0, 0) _ ?_ Yba.underlying22 rfl hsa ?_; rw [unhide HW0]; exact unhide HGA) | (refine wpList_load_row rfl 22 (.tmp 3) rfl (w.heap.size + 1) rfl 22 (bv a) (0, 0) _ ?_ Yba.underlying22 rfl hsa ?_; rw [unhide HW0]; exact unhide HGB))
  go_ret
  exact ⟨rfl, by rw [unhide HW0]; exact hbw⟩

/-- The law, out of the two contracts. -/
theorem exact_of (a b : List Int) (v : Int) (w : World) (ha : Is16 a) (hb : Is16 b)
    (cS : ∀ W, Calls Yba.prog 5 #[.agg (bv a), .agg (bv b)] W fun e w' => e = .returned (.int .u32 v) ∧ Below W.heap.size W w')
    (cM : ∀ W, Calls Yba.prog 6 #[.agg (bv a), .agg (bv b)] W fun e w' => e = .returned (.int .u32 v) ∧ Below W.heap.size W w') :
    Calls Yba.prog 3 #[.agg (bv a), .agg (bv b)] w fun e w' => e = .returned (.bool true) ∧ Below w.heap.size w w' := by
  obtain ⟨W0, hW0⟩ : ∃ W0, ((w.alloc (.cells (bv a) 22)).alloc (.cells (bv b) 22)) = W0 := ⟨_, rfl⟩
  have hga : W0.heap[w.heap.size]? = some (.cells (bv a) 22 (0, 0)) := by rw [← hW0, Below.heap_alloc _ _ _ (by simp)]; exact heap_alloc_new w _
  have hgb : W0.heap[w.heap.size + 1]? = some (.cells (bv b) 22 (0, 0)) := by
    rw [← hW0]
    have := heap_alloc_new (w.alloc (.cells (bv a) 22)) (.cells (bv b) 22)
    rw [World.size_alloc] at this
    exact this
  have hsz : W0.heap.size = w.heap.size + 2 := by rw [← hW0]; simp
  have hbw : Below w.heap.size w W0 := by rw [← hW0]; exact ((Below.refl _ _).alloc (Nat.le_refl _) _).alloc (by simp) _
  have hsa := size22_bv' ha.len
  have hsb := size22_bv' hb.len
  have HW0 := hide hW0
  have CS := hide cS
  have CM := hide cM
  have HGA := hide hga
  have HGB := hide hgb
  clear cS cM hW0 ha hb hga hgb
  go_enter Yba.func3, Yba.ntmps3
  go_wp2_with (first | (refine wpList_load_row rfl 22 (.tmp 2) rfl w.heap.size rfl 22 (bv a) (0, 0) _ ?_ Yba.underlying22 rfl hsa ?_; rw [unhide HW0]; exact unhide HGA) | (refine wpList_load_row rfl 22 (.tmp 3) rfl (w.heap.size + 1) rfl 22 (bv b) (0, 0) _ ?_ Yba.underlying22 rfl hsb ?_; rw [unhide HW0]; exact unhide HGB))
  rw [unhide HW0]
  refine (unhide CS W0).mono ?_
  rintro e w1 ⟨rfl, hb1⟩
  clear CS
  have HGA1 : Hid (w1.heap[w.heap.size]? = some (.cells (bv a) 22 (0, 0))) := (hb1.block _ (by omega)).trans (unhide HGA)
  have HGB1 : Hid (w1.heap[w.heap.size + 1]? = some (.cells (bv b) 22 (0, 0))) := (hb1.block _ (by omega)).trans (unhide HGB)
  go_wp2_with (first | (refine wpList_load_row rfl 22 (.tmp 2) rfl w.heap.size rfl 22 (bv a) (0, 0) _ (unhide HGA1) Yba.underlying22 rfl hsa ?_) | (refine wpList_load_row rfl 22 (.tmp 3) rfl (w.heap.size + 1) rfl 22 (bv b) (0, 0) _ (unhide HGB1) Yba.underlying22 rfl hsb ?_))
  refine (unhide CM w1).mono ?_
  rintro e w2 ⟨rfl, hb2⟩
  clear CM
  have hs1 := hb1.size
  go_wp2
  go_ret
  exact ⟨rfl, (hbw.trans (hb1.mono (by omega))).trans (hb2.mono (by omega))⟩

theorem exact_ne (a b : List Int) (w : World) (ha : Is16 a) (hb : Is16 b) (hne : a ≠ b) :
    Calls Yba.prog 3 #[.agg (bv a), .agg (bv b)] w fun e w' => e = .returned (.bool true) ∧ Below w.heap.size w w' :=
  exact_of a b (shareN a b) w ha hb (fun W => share_ne a b W ha hb hne) (fun W => model_ne a b W ha hb hne)
theorem exact_eq (a : List Int) (w : World) (ha : Is16 a) :
    Calls Yba.prog 3 #[.agg (bv a), .agg (bv a)] w fun e w' => e = .returned (.bool true) ∧ Below w.heap.size w w' :=
  exact_of a a 1000000000 w ha ha (fun W => share_eq a W ha) (fun W => model_eq a W ha)

end Go.Proofs.Ybulkbllg
