/-
  topology.share, by its contract.
-/
import Derived.Test.YbulkbllgDist
namespace Go.Proofs.Ybulkbllg
open Go.RowKit

/-- The arc's length: two words, and as one number. -/
def dLo (a b : List Int) : Int := (loW b - loW a) % 18446744073709551616
def dHi (a b : List Int) : Int := (hiW b - hiW a - bor (loW b) (loW a)) % 18446744073709551616
def shareN (a b : List Int) : Int := (dHi a b * 18446744073709551616 + dLo a b) * 1000000000 / 340282366920938463463374607431768211456

theorem dLo_word (a b : List Int) : IsW (dLo a b) := by unfold dLo IsW; omega
theorem dHi_word (a b : List Int) : IsW (dHi a b) := by unfold dHi IsW; omega

theorem share_arith (hi lo : Int) (h1 : IsW hi) (h2 : IsW lo) :
    hi * 1000000000 / 18446744073709551616 + (hi * 1000000000 % 18446744073709551616 + lo * 1000000000 / 18446744073709551616) / 18446744073709551616
      = (hi * 18446744073709551616 + lo) * 1000000000 / 340282366920938463463374607431768211456 := by
  obtain ⟨_, _⟩ := h1; obtain ⟨_, _⟩ := h2
  omega
theorem shareN_lt (a b : List Int) : 0 ≤ shareN a b ∧ shareN a b < 1000000000 := by
  unfold shareN
  obtain ⟨_, _⟩ := dLo_word a b
  obtain ⟨_, _⟩ := dHi_word a b
  omega

theorem size25 : (Yba.prog.info? 25).map (·.size) = some 16 := by kernel_rfl
theorem size25_bv {l : List Int} (h : l.length = 16) : (Yba.prog.info? 25).map (·.size) = some (bv l).size := by rw [bv_size, h]; exact size25

theorem ret_u32 {a b : Int} (h : a = b) : Ending.returned (.int .u32 a) = .returned (.int .u32 b) := by rw [h]

set_option maxRecDepth 100000 in
set_option maxHeartbeats 2000000 in
theorem share_ne (a b : List Int) (w : World) (ha : Is16 a) (hb : Is16 b) (hne : a ≠ b) :
    Calls Yba.prog 5 #[.agg (bv a), .agg (bv b)] w fun e w' => e = .returned (.int .u32 (shareN a b)) ∧ Below w.heap.size w w' := by
  obtain ⟨W0, hW0⟩ : ∃ W0, ((w.alloc (.cells (bv a) 25)).alloc (.cells (bv b) 25)) = W0 := ⟨_, rfl⟩
  have hga : W0.heap[w.heap.size]? = some (.cells (bv a) 25 (0, 0)) := by rw [← hW0, Below.heap_alloc _ _ _ (by simp)]; exact heap_alloc_new w _
  have hgb : W0.heap[w.heap.size + 1]? = some (.cells (bv b) 25 (0, 0)) := by
    rw [← hW0]
    have := heap_alloc_new (w.alloc (.cells (bv a) 25)) (.cells (bv b) 25)
    rw [World.size_alloc] at this
    exact this
  have hbw : Below w.heap.size w W0 := by rw [← hW0]; exact ((Below.refl _ _).alloc (Nat.le_refl _) _).alloc (by simp) _
  have heq := eq_arr 25 Yba.underlying25 a b ha.len hb.len
  rw [decide_eq_false hne] at heq
  have cD := distance_any a b W0 ha hb
  change Calls Yba.prog 7 #[.agg (bv a), .agg (bv b)] W0 fun e w' => e = .returned (.tuple #[.int .u64 (dHi a b), .int .u64 (dLo a b)]) ∧ Below W0.heap.size W0 w' at cD
  have hR : shareN a b = (dHi a b * 18446744073709551616 + dLo a b) * 1000000000 / 340282366920938463463374607431768211456 := rfl
  obtain ⟨wH0, wH1⟩ := dHi_word a b
  obtain ⟨wL0, wL1⟩ := dLo_word a b
  have hlt := shareN_lt a b
  generalize shareN a b = R at *
  generalize dHi a b = hi at *
  generalize dLo a b = lo at *
  rw [← share_arith hi lo ⟨wH0, wH1⟩ ⟨wL0, wL1⟩] at hR
  have HR := hide hR
  clear hR
  have hsa := size25_bv ha.len
  have hsb := size25_bv hb.len
  have HW0 := hide hW0
  have CD := hide cD
  have HGA := hide hga
  have HGB := hide hgb
  clear cD hW0 ha hb hne hga hgb
  go_enter Yba.func5, Yba.ntmps5
  go_wp2_with (first | (refine wpList_load_row rfl 25 (.tmp 2) rfl w.heap.size rfl 25 (bv a) (0, 0) _ ?_ Yba.underlying25 rfl hsa ?_; rw [unhide HW0]; exact unhide HGA) | (refine wpList_load_row rfl 25 (.tmp 3) rfl (w.heap.size + 1) rfl 25 (bv b) (0, 0) _ ?_ Yba.underlying25 rfl hsb ?_; rw [unhide HW0]; exact unhide HGB))
  rw [unhide HW0]
  refine (unhide CD).mono ?_
  rintro e w1 ⟨rfl, hb1⟩
  clear CD
  have cM1 := mul64_any hi ⟨wH0, wH1⟩ w1
  have cM2 := mul64_any lo ⟨wL0, wL1⟩ w1
  have kT : 0 ≤ hi * 1000000000 / 18446744073709551616 ∧ hi * 1000000000 / 18446744073709551616 < 1000000000 := by omega
  have kM : 0 ≤ hi * 1000000000 % 18446744073709551616 ∧ hi * 1000000000 % 18446744073709551616 < 18446744073709551616 := by omega
  have kC : 0 ≤ lo * 1000000000 / 18446744073709551616 ∧ lo * 1000000000 / 18446744073709551616 < 1000000000 := by omega
  generalize hi * 1000000000 / 18446744073709551616 = T at *
  generalize hi * 1000000000 % 18446744073709551616 = M at *
  generalize lo * 1000000000 / 18446744073709551616 = C at *
  obtain ⟨kT0, kT1⟩ := kT
  obtain ⟨kM0, kM1⟩ := kM
  obtain ⟨kC0, kC1⟩ := kC
  have s1 := add64_0 M C kM0 kC0
  have kA : 0 ≤ (M + C) / 18446744073709551616 ∧ (M + C) / 18446744073709551616 ≤ 1 := by omega
  generalize (M + C) / 18446744073709551616 = X at *
  obtain ⟨kA0, kA1⟩ := kA
  have CM1 := hide cM1
  have CM2 := hide cM2
  clear cM1 cM2
  go_wp2_with fail
  refine (unhide CM1).mono ?_
  rintro e w2 ⟨rfl, rfl⟩
  clear CM1
  go_wp2_with fail
  refine (unhide CM2).mono ?_
  rintro e w3 ⟨rfl, rfl⟩
  clear CM2
  go_wp2
  go_ret
  exact ⟨ret_u32 (by rw [unhide HR]), hbw.trans (hb1.mono hbw.size)⟩

set_option maxRecDepth 100000 in
set_option maxHeartbeats 2000000 in
theorem share_eq (a : List Int) (w : World) (ha : Is16 a) :
    Calls Yba.prog 5 #[.agg (bv a), .agg (bv a)] w fun e w' => e = .returned (.int .u32 1000000000) ∧ Below w.heap.size w w' := by
  obtain ⟨W0, hW0⟩ : ∃ W0, ((w.alloc (.cells (bv a) 25)).alloc (.cells (bv a) 25)) = W0 := ⟨_, rfl⟩
  have hga : W0.heap[w.heap.size]? = some (.cells (bv a) 25 (0, 0)) := by rw [← hW0, Below.heap_alloc _ _ _ (by simp)]; exact heap_alloc_new w _
  have hgb : W0.heap[w.heap.size + 1]? = some (.cells (bv a) 25 (0, 0)) := by
    rw [← hW0]
    have := heap_alloc_new (w.alloc (.cells (bv a) 25)) (.cells (bv a) 25)
    rw [World.size_alloc] at this
    exact this
  have hbw : Below w.heap.size w W0 := by rw [← hW0]; exact ((Below.refl _ _).alloc (Nat.le_refl _) _).alloc (by simp) _
  have heq := eq_arr 25 Yba.underlying25 a a ha.len ha.len
  rw [decide_eq_true rfl] at heq
  have hsa := size25_bv ha.len
  have HW0 := hide hW0
  have HGA := hide hga
  have HGB := hide hgb
  clear hW0 ha hga hgb
  go_enter Yba.func5, Yba.ntmps5
  go_wp2_with (first | (refine wpList_load_row rfl 25 (.tmp 2) rfl w.heap.size rfl 25 (bv a) (0, 0) _ ?_ Yba.underlying25 rfl hsa ?_; rw [unhide HW0]; exact unhide HGA) | (refine wpList_load_row rfl 25 (.tmp 3) rfl (w.heap.size + 1) rfl 25 (bv a) (0, 0) _ ?_ Yba.underlying25 rfl hsa ?_; rw [unhide HW0]; exact unhide HGB))
  go_ret
  exact ⟨rfl, by rw [unhide HW0]; exact hbw⟩

end Go.Proofs.Ybulkbllg
