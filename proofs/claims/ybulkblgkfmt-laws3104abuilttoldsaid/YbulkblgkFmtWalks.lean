/-
  THE WALKS: the two predicates, strings.IndexFunc at one of them, fmt.Errorf at the two formats, ValidName and ValidParticipant.
-/
import Derived.Test.YbulkblgkFmtFacts
import Derived.Test.YbulkblgkFmtPlain
import Derived.WalkKit
import Derived.WalkSpells
import Derived.WalkLawsBesides
import Derived.Lib.OthersKept
import Derived.Deep.LoopGhost
namespace Go.Proofs.YbulkblgkFmt
open Go.RowKit Go.Extern.Stop Go.Stop Go.Extern

theorem hide {p : Prop} (h : p) : Hid p := h
theorem unhide {p : Prop} (h : Hid p) : p := h

theorem okB_cases (b : Int) : (b < 48 ∧ (b == 46) = false ∧ (b == 45) = false) ∨ b = 45 ∨ b = 46 ∨ (48 ≤ b ∧ b ≤ 57) ∨ (57 < b ∧ b < 65) ∨ (65 ≤ b ∧ b ≤ 90) ∨ (90 < b ∧ b < 97 ∧ (b == 95) = false) ∨ b = 95 ∨ (97 ≤ b ∧ b ≤ 122) ∨ 122 < b := by
  simp only [beq_eq_false_iff_ne, ne_eq]
  omega

theorem ret_bool {a b : Bool} (h : a = b) : Ending.returned (.bool a) = .returned (.bool b) := by rw [h]

theorem okB_yes {b : Int} (h : (97 ≤ b ∧ b ≤ 122) ∨ (65 ≤ b ∧ b ≤ 90) ∨ (48 ≤ b ∧ b ≤ 57) ∨ b = 46 ∨ b = 45 ∨ b = 95) : okB b = true := by unfold okB; exact decide_eq_true h
theorem okB_no {b : Int} (h : ¬ ((97 ≤ b ∧ b ≤ 122) ∨ (65 ≤ b ∧ b ≤ 90) ∨ (48 ≤ b ∧ b ≤ 57) ∨ b = 46 ∨ b = 45 ∨ b = 95)) : okB b = false := by unfold okB; exact decide_eq_false h

set_option maxHeartbeats 1000000 in
theorem ok_any (b : Int) (w : World) :
    Calls Ybaf.prog 5 #[.int .u8 b] w fun e w' => e = .returned (.bool (okB b)) ∧ w' = w := by
  rcases okB_cases b with ⟨h1, h2, h3⟩ | rfl | rfl | ⟨h1, h2⟩ | ⟨h1, h2⟩ | ⟨h1, h2⟩ | ⟨h1, h2, h3⟩ | rfl | ⟨h1, h2⟩ | h1
  all_goals
    go_enter Ybaf.func5, Ybaf.ntmps5
    go_wp2
    go_ret
    refine ⟨ret_bool ?_, rfl⟩
    try simp only [beq_eq_false_iff_ne, ne_eq] at *
    first
      | (rw [okB_yes (by omega)]; done)
      | (rw [okB_no (by omega)]; simp; omega)

set_option maxHeartbeats 1000000 in
theorem notName_any (b : Int) (w : World) :
    Calls Ybaf.prog 10 #[.int .i32 b] w fun e w' => e = .returned (.bool (!okB b)) ∧ w' = w := by
  rcases okB_cases b with ⟨h1, h2, h3⟩ | rfl | rfl | ⟨h1, h2⟩ | ⟨h1, h2⟩ | ⟨h1, h2⟩ | ⟨h1, h2, h3⟩ | rfl | ⟨h1, h2⟩ | h1
  all_goals
    go_enter Ybaf.func10, Ybaf.ntmps10
    go_wp2
    go_ret
    refine ⟨ret_bool ?_, rfl⟩
    try simp only [beq_eq_false_iff_ne, ne_eq] at *
    first
      | (rw [okB_yes (by omega)]; rfl)
      | (rw [okB_no (by omega)]; simp; omega)

end Go.Proofs.YbulkblgkFmt
