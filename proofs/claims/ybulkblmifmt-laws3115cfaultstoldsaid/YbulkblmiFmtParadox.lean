/-
  lookaheadParadoxes: its faults, in order.
-/
import Derived.Test.YbulkblmiFmtBody
import Derived.Test.YbulkblmiFmtIn
namespace Go.Proofs.YbulkblmiFmt
open Go.RowKit Go.Extern.Stop Go.Stop Go.Extern

abbrev strR : Value := .string { data := #[114] }

/-- The rules, as lookaheadParadoxes is handed them. -/
def RulesX (w : World) (rb n B : Nat) (Bd : Nat → Bool × List (Lk × Bool)) : Prop := ∀ i, i < n → ∃ bd : Nat, w.cell? ⟨rb, 5 * i, none⟩ = some strR ∧ w.cell? ⟨rb, 5 * i + 1, none⟩ = some (.int .i64 0) ∧ w.cell? ⟨rb, 5 * i + 2, none⟩ = some (.pointer (some ⟨bd, 0, none⟩)) ∧ w.cell? ⟨rb, 5 * i + 3, none⟩ = some (.int .i64 (-1)) ∧ w.cell? ⟨rb, 5 * i + 4, none⟩ = some (.slice none 0 0) ∧ BodyX w B bd (Bd i).1 (Bd i).2

/-- The faults of the first k rules. -/
def allOuts (R : Nat → Nat → Bool) (Bd : Nat → Bool × List (Lk × Bool)) (k : Nat) : List Int := (List.range k).flatMap fun i => (walked (Bd i).1 (Bd i).2).flatMap (outOf R i)
theorem allOuts_succ (R : Nat → Nat → Bool) (Bd : Nat → Bool × List (Lk × Bool)) (k : Nat) : allOuts R Bd (k + 1) = allOuts R Bd k ++ (walked (Bd k).1 (Bd k).2).flatMap (outOf R k) := by
  simp [allOuts, List.range_succ]

/-- How many items the first k rules have. -/
def total (Bd : Nat → Bool × List (Lk × Bool)) : Nat → Nat
  | 0 => 0
  | k + 1 => total Bd k + (Bd k).2.length
theorem total_mono (Bd : Nat → Bool × List (Lk × Bool)) {a b : Nat} (h : a ≤ b) : total Bd a ≤ total Bd b := by
  induction b with
  | zero => obtain rfl : a = 0 := by omega
            exact Nat.le_refl _
  | succ b ih =>
    rcases Nat.lt_or_ge b a with h1 | h1
    · obtain rfl : a = b + 1 := by omega
      exact Nat.le_refl _
    · have := ih h1
      simp only [total]; omega
theorem upto_len : ∀ its : List (Lk × Bool), (upto its).length ≤ its.length
  | [] => by simp [upto]
  | (o, e) :: r => by
    have := upto_len r
    simp only [upto]
    split <;> simp <;> omega
theorem walked_len (ch : Bool) (its : List (Lk × Bool)) : (walked ch its).length ≤ its.length := by
  unfold walked
  split
  · simp
  · exact upto_len its
theorem allOuts_len (R : Nat → Nat → Bool) (Bd : Nat → Bool × List (Lk × Bool)) (k : Nat) : (allOuts R Bd k).length ≤ total Bd k := by
  induction k with
  | zero => simp [allOuts]
  | succ k ih =>
    rw [allOuts_succ, List.length_append]
    have h1 := outs_len R k (walked (Bd k).1 (Bd k).2)
    have h2 := walked_len (Bd k).1 (Bd k).2
    simp only [total]; omega

theorem Faults.alloc {w : World} {fc B : Nat} {ps : List Int} (h : Faults w fc B ps) (o : Obj) : Faults (w.alloc o) fc B ps := by
  obtain ⟨l, v, h1, h2, h3⟩ := h
  exact ⟨l, v, h1, h2.alloc o, h3.alloc o⟩

/-- One rule. -/
theorem round_at {F : Interp} {cb n : Nat} {R : Nat → Nat → Bool} {E : Nat → List Nat} {Bd : Nat → Bool × List (Lk × Bool)} {w wr : World} {bd : Nat} (i : Nat) (hF : F.answers w.tape) (hn : n ≤ 256) (hE : ∀ u, u < n → ∀ v ∈ E u, v < n) (hEl : ∀ u, u < n → (E u).length ≤ 1024)
    (hR : ∀ t i, t < n → i < n → (R t i = true ↔ Reach E t i)) (hG : Graph w cb n E) (hcb : cb < w.heap.size) (hbd : BodyX w w.heap.size bd (Bd i).1 (Bd i).2) (hok : ∀ oe ∈ (Bd i).2, okL n oe.1) (htot : total Bd n ≤ 1024) (hi : i < n)
    (hC : Blk wr w.heap.size #[.slice (some ⟨cb, 0, none⟩) n n] 28) (hFa : Faults wr (w.heap.size + 1) w.heap.size (allOuts R Bd i)) (hB : Below w.heap.size w wr) :
    Calls Ybaf.prog 7 #[.pointer (some ⟨bd, 0, none⟩), .func (.func 8) #[] #[.pointer (some ⟨w.heap.size, 0, none⟩), .pointer (some ⟨wr.heap.size, 0, none⟩), .pointer (some ⟨wr.heap.size + 1, 0, none⟩), .pointer (some ⟨w.heap.size + 1, 0, none⟩)]]
      ((wr.alloc (.cells #[.int .i64 i] 3)).alloc (.cells #[strR, .int .i64 0, .pointer (some ⟨bd, 0, none⟩), .int .i64 (-1), .slice none 0 0] 39)) fun r w' => r = .returned (.tuple #[]) ∧
        Blk w' w.heap.size #[.slice (some ⟨cb, 0, none⟩) n n] 28 ∧ Faults w' (w.heap.size + 1) w.heap.size (allOuts R Bd (i + 1)) ∧ Below w.heap.size w w' := by
  have hx : FixedAt F w R E (w.heap.size + 1) cb n i w.heap.size := ⟨hF, hi, hn, hE, hEl, by omega, hcb, fun t ht => hR t i ht hi⟩
  have hsz := hB.size
  have hBW : Below w.heap.size w ((wr.alloc (.cells #[.int .i64 i] 3)).alloc (.cells #[strR, .int .i64 0, .pointer (some ⟨bd, 0, none⟩), .int .i64 (-1), .slice none 0 0] 39)) := (hB.alloc hsz _).alloc (by simp; omega) _
  have hru := Blk.new (wr.alloc (.cells #[.int .i64 i] 3)) #[strR, .int .i64 0, .pointer (some ⟨bd, 0, none⟩), .int .i64 (-1), .slice none 0 0] 39
  rw [World.size_alloc] at hru
  have hl1 := allOuts_len R Bd i
  have hl2 := total_mono Bd (show i + 1 ≤ n from hi)
  simp only [total] at hl2
  refine (body_at (cc := w.heap.size) (ic := wr.heap.size) (rc := wr.heap.size + 1) hx bd (Bd i).1 (Bd i).2 (allOuts R Bd i) _ (by omega) (by omega) hbd hok ⟨⟨(hC.alloc _).alloc _, (Blk.new wr _ 3).alloc _, ⟨_, _, _, _, _, hru⟩, hG.below hBW (Nat.le_refl _)⟩, (hFa.alloc _).alloc _, hBW⟩).mono ?_
  rintro r w' ⟨rfl, h1, h2, h3⟩
  rw [← allOuts_succ] at h2
  exact ⟨rfl, h1.calls, h2, h3⟩

set_option maxRecDepth 100000 in
set_option maxHeartbeats 4000000 in
theorem paradox_calls (F : Interp) (rb cb n : Nat) (R : Nat → Nat → Bool) (E : Nat → List Nat) (Bd : Nat → Bool × List (Lk × Bool)) (w : World) (hF : F.answers w.tape) (hn : n ≤ 256) (hE : ∀ u, u < n → ∀ v ∈ E u, v < n) (hEl : ∀ u, u < n → (E u).length ≤ 1024)
    (hR : ∀ t i, t < n → i < n → (R t i = true ↔ Reach E t i)) (hG : Graph w cb n E) (hcb : cb < w.heap.size) (hX : RulesX w rb n w.heap.size Bd) (hok : ∀ i, i < n → ∀ oe ∈ (Bd i).2, okL n oe.1) (htot : total Bd n ≤ 1024) :
    Calls Ybaf.prog 6 #[.slice (some ⟨rb, 0, none⟩) n n, .slice (some ⟨cb, 0, none⟩) n n] w fun r w' => ∃ l v, r = .returned v ∧ l.map Prod.fst = allOuts R Bd n ∧ w'.ownsRow w.heap.size 47 2 v l.length (frow l) ∧ Below w.heap.size w w' := by
  have HE := hide hE
  have HEL := hide hEl
  have HR := hide hR
  have HG := hide hG
  have HX := hide hX
  have HOK := hide hok
  have HF := hide hF
  clear hE hEl hR hG hX hok hF
  have hC1 := (Blk.new w #[.slice (some ⟨cb, 0, none⟩) n n] 28).alloc (.cells #[.slice none 0 0] 44)
  have hF1 := Blk.new (w.alloc (.cells #[.slice (some ⟨cb, 0, none⟩) n n] 28)) #[.slice none 0 0] 44
  rw [World.size_alloc] at hF1
  have hB1 : Below w.heap.size w ((w.alloc (.cells #[.slice (some ⟨cb, 0, none⟩) n n] 28)).alloc (.cells #[.slice none 0 0] 44)) := ((Below.refl _ w).alloc (Nat.le_refl _) _).alloc (by simp) _
  obtain ⟨W1, hW1⟩ : ∃ W1, (w.alloc (.cells #[.slice (some ⟨cb, 0, none⟩) n n] 28)).alloc (.cells #[.slice none 0 0] 44) = W1 := ⟨_, rfl⟩
  rw [hW1] at hC1 hF1 hB1
  have HC1 := hide hC1
  have HB1 := hide hB1
  have HFa : Hid (Faults W1 (w.heap.size + 1) w.heap.size (allOuts R Bd 0)) := ⟨[], .slice none 0 0, by simp [allOuts], hF1, World.ownsRow_nil _ _ _ _⟩
  have HW1 := hide hW1
  clear hC1 hF1 hB1 hW1
  go_enter Ybaf.func6, Ybaf.ntmps6
  go_upto_region 2 with fail
  rw [unhide HW1]
  clear HW1
  go_wp2_with fail
  go_loopw [10] (fun v wr => ∃ i : Nat, i ≤ n ∧ v = .int .i64 i ∧ Hid (Blk wr w.heap.size #[.slice (some ⟨cb, 0, none⟩) n n] 28) ∧ Hid (Faults wr (w.heap.size + 1) w.heap.size (allOuts R Bd i)) ∧ Hid (Below w.heap.size w wr)) (fun v _ => n - (intOf v).toNat)
  case atStart => exact ⟨0, Nat.zero_le _, rfl, HC1, HFa, HB1⟩
  case round =>
    clear HC1 HFa HB1
    obtain ⟨i, hi, rfl, HC, HFa, HB⟩ := hrel
    by_cases hlt : i < n
    · obtain ⟨bd, r0, r1, r2, r3, r4, hbd⟩ := unhide HX i hlt
      have q0 : wr.cell? ⟨rb, i * 5, none⟩ = some strR := by rw [Nat.mul_comm]; exact cell_below (unhide HB) (Nat.le_refl _) r0
      have q1 : wr.cell? ⟨rb, i * 5 + 1, none⟩ = some (.int .i64 0) := by rw [Nat.mul_comm]; exact cell_below (unhide HB) (Nat.le_refl _) r1
      have q2 : wr.cell? ⟨rb, i * 5 + 2, none⟩ = some (.pointer (some ⟨bd, 0, none⟩)) := by rw [Nat.mul_comm]; exact cell_below (unhide HB) (Nat.le_refl _) r2
      have q3 : wr.cell? ⟨rb, i * 5 + 3, none⟩ = some (.int .i64 (-1)) := by rw [Nat.mul_comm]; exact cell_below (unhide HB) (Nat.le_refl _) r3
      have q4 : wr.cell? ⟨rb, i * 5 + 4, none⟩ = some (.slice none 0 0) := by rw [Nat.mul_comm]; exact cell_below (unhide HB) (Nat.le_refl _) r4
      have HBD := hide hbd
      clear r0 r1 r2 r3 r4 hbd
      have cB := round_at i (unhide HF) hn (unhide HE) (unhide HEL) (unhide HR) (unhide HG) hcb (unhide HBD) (unhide HOK i hlt) htot hlt (unhide HC) (unhide HFa) (unhide HB)
      have CB := hide cB
      clear cB
      go_wp2_with fail
      refine (unhide CB).mono ?_
      rintro r w2 ⟨rfl, hC2, hF2, hB2⟩
      have HC2 := hide hC2
      have HF2 := hide hF2
      have HB2 := hide hB2
      clear hC2 hF2 hB2 CB
      go_wp2
      go_roundw
      case rel => exact ⟨i + 1, hlt, by simp, HC2, HF2, HB2⟩
      case measure => go_light; simp [intOf]; omega
    · obtain rfl : i = n := by go_light; omega
      obtain ⟨l, v, hl, hbk, hrow⟩ := unhide HFa
      have c0 := hbk.cell 0 rfl
      have HL := hide hl
      have HRow := hide hrow
      clear hl hbk hrow
      go_wp2
      go_ret
      exact ⟨l, v, rfl, unhide HL, unhide HRow, unhide HB⟩
end Go.Proofs.YbulkblmiFmt
