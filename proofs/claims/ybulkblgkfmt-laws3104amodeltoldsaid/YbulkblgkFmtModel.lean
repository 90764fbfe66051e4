/-
  THE WALK OF LawS3104AModel.
-/
import Derived.Test.YbulkblgkFmtValid
namespace Go.Proofs.YbulkblgkFmt
open Go.RowKit Go.Extern.Stop Go.Stop Go.Extern

/-- What 'want' holds after k bytes. -/
def wantK (s : ByteArray) (k : Nat) : Bool := decide (1 ≤ s.size) && decide (s.size ≤ 64) && allOk (s.data.toList.take k)

theorem take_snoc (s : ByteArray) (k : Nat) (h : k < s.size) : s.data.toList.take (k + 1) = s.data.toList.take k ++ [s[k]] := by
  rw [List.take_succ_eq_append_getElem (by simpa using h)]; rfl

theorem wantK_yes (s : ByteArray) (k : Nat) (h : k < s.size) (ho : okB (s[k].toNat : Int) = true) : wantK s (k + 1) = wantK s k := by
  unfold wantK allOk
  rw [take_snoc s k h]
  simp [ho]

theorem wantK_no (s : ByteArray) (k : Nat) (h : k < s.size) (ho : okB (s[k].toNat : Int) = false) : wantK s (k + 1) = false := by
  unfold wantK allOk
  rw [take_snoc s k h]
  simp [ho]

theorem wantK_all (s : ByteArray) : wantK s s.size = good s := by
  unfold wantK good
  rw [List.take_of_length_le (by simp)]

theorem wantK_0 (s : ByteArray) : wantK s 0 = (decide (1 ≤ s.size) && decide (s.size ≤ 64)) := by
  unfold wantK allOk; simp

set_option maxHeartbeats 1000000 in
theorem model_any (F : Interp) (s : ByteArray) (w : World) (hs : s.size ≤ maxLen) (hF : F.answers w.tape) :
    Calls Ybaf.prog 3 #[.string s] w fun e w' => e = .returned (.bool true) ∧ Below w.heap.size w w' := by
  unfold maxLen at hs
  have HF := hide hF
  clear hF
  have HW := hide (wantK_0 s)
  have W0 : ∃ b : Bool, (decide ((s.size : Int) ≤ 64) = b) ∧ (1 ≤ s.size → wantK s 0 = b) ∧ (s.size < 1 → wantK s 0 = false) := by
    refine ⟨_, rfl, fun h => ?_, fun h => ?_⟩
    · rw [wantK_0, decide_eq_true h, Bool.true_and, decide_eq_decide]; omega
    · rw [wantK_0, decide_eq_false (by omega)]; rfl
  obtain ⟨b64, d64, W1, W2⟩ := W0
  have H1 := hide W1
  have H2 := hide W2
  clear W1 W2
  rcases (show s.size < 1 ∨ 1 ≤ s.size by omega) with h0 | h0
  all_goals
    go_enter Ybaf.func3, Ybaf.ntmps3
    go_wp2
    go_loop [3, 4] (fun t i => ∃ k : Nat, k ≤ s.size ∧ i = .int .i64 k ∧ t = .bool (wantK s k)) (fun _ i => s.size - (intOf i).toNat)
    case atStart => exact ⟨0, Nat.zero_le _, rfl, by first | rw [unhide H1 h0] | rw [unhide H2 h0]⟩
    case round =>
      obtain ⟨k, hk, rfl, rfl⟩ := hrel
      by_cases hlt : k < s.size
      · have cO := ok_any (s[k].toNat : Int) w
        cases ho : okB (s[k].toNat : Int) with
        | true =>
          have HS := hide (wantK_yes s k hlt ho)
          rw [ho] at cO
          have HC := hide cO
          clear cO ho
          go_wp2_with fail
          refine (unhide HC).mono ?_
          rintro e w' ⟨rfl, rfl⟩
          go_wp2
          go_round
          case rel => exact ⟨k + 1, by omega, by go_num, by rw [unhide HS]⟩
          case measure => simp [intOf]; omega
        | false =>
          have HS := hide (wantK_no s k hlt ho)
          rw [ho] at cO
          have HC := hide cO
          clear cO ho
          go_wp2_with fail
          refine (unhide HC).mono ?_
          rintro e w' ⟨rfl, rfl⟩
          go_wp2
          go_round
          case rel => exact ⟨k + 1, by omega, by go_num, by rw [unhide HS]⟩
          case measure => simp [intOf]; omega
      · have hke : k = s.size := by omega
        subst hke
        rw [wantK_all]
        cases hg : good s with
        | true =>
          have HG := hide hg
          clear hg
          go_wp2_with fail
          refine (validPart_good s _ (unhide HG)).mono ?_
          rintro e w1 ⟨rfl, hb⟩
          go_wp2
          go_ret
          exact ⟨rfl, hb⟩
        | false =>
          have HG := hide hg
          clear hg
          go_wp2_with fail
          refine (validPart_bad F s _ (unhide HF) (unhide HG)).mono ?_
          rintro e w1 ⟨a, rfl, hb⟩
          go_wp2
          go_ret
          exact ⟨rfl, hb⟩

end Go.Proofs.YbulkblgkFmt
