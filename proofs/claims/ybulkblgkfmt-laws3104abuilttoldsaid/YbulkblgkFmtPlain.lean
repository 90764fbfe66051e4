/-
  THE PLAIN LAW: which bytes may stand in a name, and what a UTF-8 decoder makes of the others. No Go in sight.
-/
import Derived.Lib.TrimU
namespace Go.Proofs.YbulkblgkFmt

/-- An ASCII letter, digit, '.', '-' or '_'. -/
def okB (n : Int) : Bool := decide ((97 ≤ n ∧ n ≤ 122) ∨ (65 ≤ n ∧ n ≤ 90) ∨ (48 ≤ n ∧ n ≤ 57) ∨ n = 46 ∨ n = 45 ∨ n = 95)

/-- Every byte of the string is one of them. -/
def allOk (l : List UInt8) : Bool := l.all fun b => okB (b.toNat : Int)

theorem okB_lt {n : Int} (h : okB n = true) : n < 128 := by
  unfold okB at h; simp at h; omega

theorem decodeN_ok (n b0 b1 b2 b3 : Nat) (h : okB (b0 : Int) = true) : Lib.decodeN n b0 b1 b2 b3 = (b0, 1) := by
  have := okB_lt h
  simp [Lib.decodeN]
  omega

theorem decodeN_hi (n b0 b1 b2 b3 : Nat) (h : 128 ≤ b0) : 128 ≤ (Lib.decodeN n b0 b1 b2 b3).1 := by
  unfold Lib.decodeN
  repeat' split
  all_goals (dsimp only; omega)

theorem decodeN_bad (n b0 b1 b2 b3 : Nat) (h : okB (b0 : Int) = false) : okB ((Lib.decodeN n b0 b1 b2 b3).1 : Int) = false := by
  by_cases hb : b0 < 128
  · have e : Lib.decodeN n b0 b1 b2 b3 = (b0, 1) := by simp [Lib.decodeN, hb]
    rw [e]; exact h
  · have := decodeN_hi n b0 b1 b2 b3 (by omega)
    cases hh : okB ((Lib.decodeN n b0 b1 b2 b3).1 : Int) with
    | false => rfl
    | true => have := okB_lt hh; omega

theorem get!_eq (s : ByteArray) (i : Nat) (h : i < s.size) : s.get! i = s[i] := by
  simp [ByteArray.get!, h]
  rfl

theorem dec_ok (s : ByteArray) (i : Nat) (h : i < s.size) (hk : okB (s[i].toNat : Int) = true) : Utf8.decode s i = (s[i].toNat, 1) := by
  rw [Lib.decode_at, get!_eq s i h]
  exact decodeN_ok _ _ _ _ _ hk

theorem dec_bad (s : ByteArray) (i : Nat) (h : i < s.size) (hk : okB (s[i].toNat : Int) = false) : okB ((Utf8.decode s i).1 : Int) = false := by
  rw [Lib.decode_at, get!_eq s i h]
  exact decodeN_bad _ _ _ _ _ hk

theorem allOk_of (s : ByteArray) (h : ∀ (i : Nat) (hi : i < s.size), okB (s[i].toNat : Int) = true) : allOk s.data.toList = true := by
  unfold allOk
  rw [List.all_eq_true]
  intro b hb
  obtain ⟨i, hi, rfl⟩ := List.getElem_of_mem hb
  exact h i (by simpa using hi)

theorem allOk_at (s : ByteArray) (h : allOk s.data.toList = true) (i : Nat) (hi : i < s.size) : okB (s[i].toNat : Int) = true := by
  unfold allOk at h
  rw [List.all_eq_true] at h
  exact h s[i] (List.getElem_mem (l := s.data.toList) (by simpa using hi))

theorem allOk_not (s : ByteArray) (i : Nat) (hi : i < s.size) (hk : okB (s[i].toNat : Int) = false) : allOk s.data.toList = false := by
  cases h : allOk s.data.toList with
  | false => rfl
  | true => rw [allOk_at s h i hi] at hk; cases hk

/-- The name is good: one to 64 bytes, each of the alphabet. -/
def good (s : ByteArray) : Bool := decide (1 ≤ s.size) && decide (s.size ≤ 64) && allOk s.data.toList

end Go.Proofs.YbulkblgkFmt
