/-
  zzs3111bbuild, by its contract.
-/
import Derived.Test.YbulkblkeSearch
import Derived.RegionTactic
import Derived.BigRegion
namespace Go.Proofs.Ybulkblke
open Go.RowKit

/-- The cells of a row of slots. -/
def flat (l : List (Int × Int)) : List Value := l.flatMap fun x => [.int .u32 x.1, .int .u32 x.2]
theorem flat_nil : flat [] = [] := rfl
theorem flat_cons (x : Int × Int) (l : List (Int × Int)) : flat (x :: l) = .int .u32 x.1 :: .int .u32 x.2 :: flat l := rfl
theorem flat_length (l : List (Int × Int)) : (flat l).length = l.length * 2 := by
  induction l with
  | nil => rfl
  | cons x l ih => rw [flat_cons]; simp [ih]; omega
theorem flat_at (l : List (Int × Int)) : ∀ i, i < l.length → (flat l)[i * 2]? = some (.int .u32 (l.getD i (0, 0)).1) ∧ (flat l)[i * 2 + 1]? = some (.int .u32 (l.getD i (0, 0)).2) := by
  induction l with
  | nil => intro i hi; simp at hi
  | cons x l ih =>
    intro i hi
    cases i with
    | zero => simp [flat_cons]
    | succ i =>
      have := ih i (by simpa using hi)
      rw [flat_cons]
      rw [show (i + 1) * 2 = i * 2 + 1 + 1 by omega]
      simpa using this
theorem flat_set (l : List (Int × Int)) : ∀ (i : Nat) (x : Int × Int), flat (l.set i x) = ((flat l).set (i * 2) (.int .u32 x.1)).set (i * 2 + 1) (.int .u32 x.2) := by
  induction l with
  | nil => intro i x; simp [flat_nil]
  | cons y l ih =>
    intro i x
    cases i with
    | zero => simp [flat_cons]
    | succ i =>
      rw [List.set_cons_succ, flat_cons, flat_cons, ih i x, show (i + 1) * 2 = i * 2 + 1 + 1 by omega]
      simp

/-- The row after i rounds. -/
def part (n : Nat) (D : List (Int × Int)) (i : Nat) : List (Int × Int) := (List.range n).map fun j => if j < i then D.getD j (0, 0) else (0, 0)
theorem part_length (n : Nat) (D : List (Int × Int)) (i : Nat) : (part n D i).length = n := by simp [part]
theorem part_at (n : Nat) (D : List (Int × Int)) (i j : Nat) (h : j < n) : (part n D i).getD j (0, 0) = if j < i then D.getD j (0, 0) else (0, 0) := by
  simp [part, List.getD_eq_getElem?_getD, h]
theorem part_succ (n : Nat) (D : List (Int × Int)) (i : Nat) : part n D (i + 1) = (part n D i).set i (D.getD i (0, 0)) := by
  apply List.ext_getElem
  · simp [part]
  · intro j h1 h2
    simp [part, List.getElem_set]
    by_cases e : i = j
    · subst e; simp
    · rw [if_neg e]
      have : (j < i + 1) = (j < i) := propext ⟨fun _ => by omega, fun _ => by omega⟩
      simp only [this]
theorem part_past (n : Nat) (D : List (Int × Int)) (i : Nat) (h : D.length ≤ i) : part n D (i + 1) = part n D i := by
  unfold part
  apply List.map_congr_left
  intro j _
  by_cases e : j = i
  · subst e; simp [List.getD_eq_getElem?_getD, List.getElem?_eq_none h]
  · have : (j < i + 1) = (j < i) := propext ⟨fun _ => by omega, fun _ => by omega⟩
    simp only [this]
theorem part_zero (n : Nat) (D : List (Int × Int)) : part n D 0 = List.replicate n (0, 0) := by
  apply List.ext_getElem <;> simp [part]

/-- A free slot among the first i. -/
def freeTo (n : Nat) (D : List (Int × Int)) (i : Nat) : Bool := ((part n D i).take i).any fun x => x.2 == 0
theorem freeTo_succ (n : Nat) (D : List (Int × Int)) (i : Nat) (h : i < n) : freeTo n D (i + 1) = (freeTo n D i || ((D.getD i (0, 0)).2 == 0)) := by
  unfold freeTo
  rw [List.take_succ_eq_append_getElem (by rw [part_length]; exact h), List.any_append]
  congr 1
  · congr 1
    apply List.ext_getElem
    · simp [part_length]
    · intro j h1 h2
      simp [part_length] at h1 h2
      simp [part, show j < i + 1 by omega]
      intro h3
      omega
  · simp [part]

/-- The slots that are built. -/
def built (n : Nat) (D : List (Int × Int)) : List (Int × Int) := if freeTo n D n = true then part n D n else (part n D n).set (n - 1) (0, 0)
theorem built_length (n : Nat) (D : List (Int × Int)) : (built n D).length = n := by unfold built; split <;> simp [part_length]
theorem built_free (n : Nat) (D : List (Int × Int)) (h : 1 ≤ n) : ∃ i, i < n ∧ ((built n D).getD i (0, 0)).2 = 0 := by
  unfold built
  by_cases hf : freeTo n D n = true
  · rw [if_pos hf]
    unfold freeTo at hf
    rw [List.any_eq_true] at hf
    obtain ⟨x, hx, h0⟩ := hf
    obtain ⟨i, hi, rfl⟩ := List.getElem_of_mem (List.mem_of_mem_take hx)
    rw [part_length] at hi
    exact ⟨i, hi, by simpa [List.getD_eq_getElem?_getD, part_length, hi] using h0⟩
  · rw [if_neg hf]
    exact ⟨n - 1, by omega, by simp [List.getD_eq_getElem?_getD, part_length, show n - 1 < n by omega]⟩

/-- The elements of a slice of pairs lie in memory as D. -/
def PairRow (w : World) (B : Nat) (ao : Option Addr) (D : List (Int × Int)) : Prop := ∀ k, k < D.length → ∃ b off, ao = some ⟨b, off, none⟩ ∧ b < B ∧ w.cell? ⟨b, off + k * 2, none⟩ = some (.int .u32 (D.getD k (0, 0)).1) ∧ w.cell? ⟨b, off + k * 2 + 1, none⟩ = some (.int .u32 (D.getD k (0, 0)).2)

theorem info28 : (Yba.prog.info? 28).map (fun i => (i.zero, i.size, i.bytes)) = some (some (.agg #[.int .u32 0, .int .u32 0]), 2, 8) := by kernel_rfl

theorem made_flat (n : Nat) : (madeCells #[Value.int .u32 0, .int .u32 0] (n * 2)).toList = flat (List.replicate n (0, 0)) := by
  apply List.ext_getElem?
  intro i
  by_cases hi : i < n * 2
  · have h1 : (madeCells #[Value.int .u32 0, .int .u32 0] (n * 2)).toList[i]? = some (.int .u32 0) := by
      rw [Array.getElem?_toList, Array.getElem?_eq_getElem (by rw [size_madeCells]; exact hi)]
      simp only [madeCells, Array.getElem_map, Array.getElem_range]
      rcases (show i % 2 = 0 ∨ i % 2 = 1 by omega) with h | h <;> simp [h]
    rw [h1]
    obtain ⟨q, hq⟩ : ∃ q, i = q * 2 ∨ i = q * 2 + 1 := ⟨i / 2, by omega⟩
    have h2 := flat_at (List.replicate n (0, 0)) q (by simp; omega)
    have h3 : (List.replicate n ((0 : Int), (0 : Int))).getD q (0, 0) = (0, 0) := by simp [List.getD_eq_getElem?_getD, List.getElem?_replicate]; split <;> rfl
    rw [h3] at h2
    rcases hq with rfl | rfl
    · exact h2.1.symm
    · exact h2.2.symm
  · rw [List.getElem?_eq_none (by rw [Array.length_toList, size_madeCells]; omega), List.getElem?_eq_none (by rw [flat_length]; simp; omega)]

theorem shl_eq (k : Int) (h0 : 0 ≤ k) : wrap64 (2 ^ (k % 9).toNat) = ((2 ^ (k.toNat % 9) : Nat) : Int) := by
  rw [show (k % 9).toNat = k.toNat % 9 by omega]
  have h9 : k.toNat % 9 < 9 := Nat.mod_lt _ (by decide)
  generalize k.toNat % 9 = e at h9
  have h : e = 0 ∨ e = 1 ∨ e = 2 ∨ e = 3 ∨ e = 4 ∨ e = 5 ∨ e = 6 ∨ e = 7 ∨ e = 8 := by omega
  rcases h with rfl | rfl | rfl | rfl | rfl | rfl | rfl | rfl | rfl <;> (unfold wrap64; decide)

set_option maxHeartbeats 1000000 in
theorem build_any (k : Int) (ao : Option Addr) (cap : Nat) (D : List (Int × Int)) (w : World) (hk0 : 0 ≤ k) (hk1 : k ≤ 255) (hm : D.length ≤ maxLen) (hc : PairRow w w.heap.size ao D) :
    Calls Yba.prog 5 #[.int .u8 k, .slice ao D.length cap] w fun e w' => e = .returned (.slice (some ⟨w.heap.size, 0, none⟩) (2 ^ (k.toNat % 9)) (2 ^ (k.toNat % 9))) ∧
      w'.ownsRow w.heap.size 28 2 (.slice (some ⟨w.heap.size, 0, none⟩) (2 ^ (k.toNat % 9)) (2 ^ (k.toNat % 9))) (2 ^ (k.toNat % 9)) (flat (built (2 ^ (k.toNat % 9)) D)) ∧ Below w.heap.size w w' := by
  unfold maxLen at hm
  obtain ⟨i0, hi, hz0, hz1, hz2⟩ := info_parts info28
  have hsh := shl_eq k hk0
  have hn256 : 2 ^ (k.toNat % 9) ≤ 256 := Nat.pow_le_pow_right (n := 2) (by decide) (show k.toNat % 9 ≤ 8 by omega)
  have hn1 : 1 ≤ 2 ^ (k.toNat % 9) := Nat.one_le_two_pow
  obtain ⟨n, hn⟩ : ∃ n, 2 ^ (k.toNat % 9) = n := ⟨_, rfl⟩
  rw [hn] at hsh hn256 hn1 ⊢
  clear hn
  have HC := hide hc
  clear hc
  go_enter Yba.func5, Yba.ntmps5
  go_wp2_with (at_make; (refine wpList_make_full _ rfl _ _ 25 rfl w.heap.size 28 i0 (.agg #[.int .u32 0, .int .u32 0]) 2 Yba.underlying25 hi hz0 hz1 _ _ _ _ n rfl rfl hsh hsh (by rw [hz2]; omega) (by unfold maxLen; omega) (Nat.le_refl _) ?_))
  intro w1 hown hgrow
  rw [made_flat, ← part_zero n D] at hown
  have hb1 : Below w.heap.size w w1 := (Below.refl _ _).grown hgrow (Nat.le_refl _) (by simp)
  clear hgrow
  go_wp2
  go_loopw [7, 8] (fun f i wr => ∃ q : Nat, q ≤ n ∧ i = .int .i64 q ∧ f = .bool (freeTo n D q) ∧ wr.ownsRow w.heap.size 28 2 (.slice (some ⟨w.heap.size, 0, none⟩) n n) n (flat (part n D q)) ∧ Below w.heap.size w wr) (fun _ i _ => n - (intOf i).toNat)
  case atStart => exact ⟨0, Nat.zero_le _, rfl, rfl, hown, hb1⟩
  case round =>
    clear hown hb1
    obtain ⟨q, hq, rfl, rfl, hown, hb⟩ := hrel
    by_cases hlt : q < n
    · by_cases hld : q < D.length
      · obtain ⟨b, off, hao, hbB, hd0, hd1⟩ := unhide HC q hld
        have hd0' := (hb.cell (p := ⟨b, off + q * 2, none⟩) hbB).trans hd0
        have hd1' := (hb.cell (p := ⟨b, off + q * 2 + 1, none⟩) hbB).trans hd1
        clear hd0 hd1
        subst hao
        have hs0 := hown.cellAt (q * 2) (by omega)
        have hs1 := hown.cellAt (q * 2 + 1) (by omega)
        have hfl := flat_at (part n D q) q (by rw [part_length]; exact hlt)
        rw [hfl.1] at hs0
        rw [hfl.2] at hs1
        have hf0 := hown.frozenAt (q * 2)
        have hf1 := hown.frozenAt (q * 2 + 1)
        have hown2 := ((hown.stored (q * 2) (.int .u32 (D.getD q (0, 0)).1)).1.stored (q * 2 + 1) (.int .u32 (D.getD q (0, 0)).2)).1
        rw [← flat_set, ← part_succ] at hown2
        have hfr := freeTo_succ n D q hlt
        generalize D.getD q (0, 0) = d at *
        obtain ⟨dt, dp⟩ := d
        generalize (part n D q).getD q (0, 0) = pz at *
        obtain ⟨pt, pp⟩ := pz
        simp only at *
        have hb2 : Below w.heap.size w ((wr.setCell ⟨w.heap.size, q * 2, none⟩ (.int .u32 dt)).setCell ⟨w.heap.size, q * 2 + 1, none⟩ (.int .u32 dp)) := (hb.setCell (Nat.le_refl _) _).setCell (Nat.le_refl _) _
        have HO := hide hown2
        have HF := hide hfr
        clear hfl hown hown2 hfr HC
        cases hdp : (dp == 0) with
        | true =>
          rw [hdp] at HF
          go_wp2
          go_region
          go_wp2
          go_roundw
          case rel => exact ⟨q + 1, by omega, by go_num, by rw [unhide HF]; simp, unhide HO, hb2.drew⟩
          case measure => simp [intOf]; omega
        | false =>
          rw [hdp] at HF
          go_wp2
          go_region
          go_wp2
          go_roundw
          case rel => exact ⟨q + 1, by omega, by go_num, by rw [unhide HF]; simp, unhide HO, hb2.drew⟩
          case measure => simp [intOf]; omega
      · have hs1 := hown.cellAt (q * 2 + 1) (by omega)
        have hfl := flat_at (part n D q) q (by rw [part_length]; exact hlt)
        have hz : (part n D q).getD q (0, 0) = (0, 0) := by rw [part_at n D q q hlt, if_neg (Nat.lt_irrefl _)]
        have hz2 : D.getD q (0, 0) = (0, 0) := by simp [List.getD_eq_getElem?_getD, List.getElem?_eq_none (Nat.le_of_not_lt hld)]
        rw [hfl.2, hz] at hs1
        simp only at hs1
        have hfr := freeTo_succ n D q hlt
        rw [hz2] at hfr
        have hfr1 : freeTo n D (q + 1) = true := by rw [hfr]; simp
        have HF := hide hfr1
        have HO : Hid (wr.ownsRow w.heap.size 28 2 (.slice (some ⟨w.heap.size, 0, none⟩) n n) n (flat (part n D (q + 1)))) := by rw [part_past n D q (by omega)]; exact hown
        clear hfl hz hz2 hfr hfr1 hown
        go_wp2
        go_roundw
        case rel => exact ⟨q + 1, by omega, by go_num, by rw [unhide HF], unhide HO, hb⟩
        case measure => simp [intOf]; omega
    · have hqn : q = n := by omega
      subst hqn
      cases hfr : freeTo q D q with
      | true =>
        have hbu : built q D = part q D q := by unfold built; rw [if_pos hfr]
        have HO : Hid (wr.ownsRow w.heap.size 28 2 (.slice (some ⟨w.heap.size, 0, none⟩) q q) q (flat (built q D))) := by rw [hbu]; exact hown
        clear hown hbu
        go_wp2
        go_ret
        exact ⟨rfl, unhide HO, hb⟩
      | false =>
        have hbu : built q D = (part q D q).set (q - 1) (0, 0) := by unfold built; rw [if_neg (by rw [hfr]; decide)]
        have hs0 := hown.cellAt ((q - 1) * 2) (by omega)
        have hs1 := hown.cellAt ((q - 1) * 2 + 1) (by omega)
        have hfl := flat_at (part q D q) (q - 1) (by rw [part_length]; omega)
        rw [hfl.1] at hs0
        rw [hfl.2] at hs1
        have hf0 := hown.frozenAt ((q - 1) * 2)
        have hf1 := hown.frozenAt ((q - 1) * 2 + 1)
        have hown2 := ((hown.stored ((q - 1) * 2) (.int .u32 ((0 : Int), (0 : Int)).1)).1.stored ((q - 1) * 2 + 1) (.int .u32 ((0 : Int), (0 : Int)).2)).1
        rw [← flat_set, ← hbu] at hown2
        generalize (part q D q).getD (q - 1) (0, 0) = pz at *
        obtain ⟨pt, pp⟩ := pz
        simp only at *
        obtain ⟨m, rfl⟩ : ∃ m, q = m + 1 := ⟨q - 1, by omega⟩
        simp only [Nat.add_sub_cancel] at *
        have hb2 : Below w.heap.size w ((wr.setCell ⟨w.heap.size, m * 2, none⟩ (.int .u32 0)).setCell ⟨w.heap.size, m * 2 + 1, none⟩ (.int .u32 0)) := (hb.setCell (Nat.le_refl _) _).setCell (Nat.le_refl _) _
        have HO := hide hown2
        clear hfl hown hown2 hbu
        go_wp2
        go_ret
        exact ⟨rfl, unhide HO, hb2⟩

end Go.Proofs.Ybulkblke
