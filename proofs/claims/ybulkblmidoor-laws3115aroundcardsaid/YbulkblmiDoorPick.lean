/-
  Which results stay, counted from the first.
-/
import Derived.Test.YbulkblmiDoorDel
namespace Go.Proofs.YbulkblmiDoor

def stay (l : List (Nat × Bool)) (gf i : Nat) : List (Nat × Bool) := l.take (min i gf) ++ kept ((l.take i).drop gf)

theorem stay_zero (l : List (Nat × Bool)) (gf : Nat) : stay l gf 0 = [] := by simp [stay, kept]
theorem stay_all (l : List (Nat × Bool)) (gf : Nat) (h : gf ≤ l.length) : stay l gf l.length = l.take gf ++ kept (l.drop gf) := by
  simp [stay, Nat.min_eq_right h]
theorem stay_step {l : List (Nat × Bool)} {gf i r : Nat} {t : Bool} (hi : l[i]? = some (r, t)) : stay l gf (i + 1) = stay l gf i ++ (if i < gf ∨ t = false then [(r, t)] else []) := by
  have hil : i < l.length := (List.getElem?_eq_some_iff.1 hi).1
  unfold stay
  by_cases hg : i < gf
  · have e1 : (l.take (i + 1)).drop gf = [] := List.drop_eq_nil_of_le (by simp; omega)
    have e2 : (l.take i).drop gf = [] := List.drop_eq_nil_of_le (by simp; omega)
    rw [e1, e2, Nat.min_eq_left (by omega), Nat.min_eq_left (by omega), List.take_add_one, hi, if_pos (.inl hg)]
    simp [kept]
  · have e1 : (l.take (i + 1)).drop gf = (l.take i).drop gf ++ [(r, t)] := by
      rw [List.take_add_one, hi, List.drop_append_of_le_length (by simp; omega)]
      rfl
    rw [e1, Nat.min_eq_right (by omega), Nat.min_eq_right (by omega)]
    unfold kept
    rw [List.filter_append, ← List.append_assoc]
    cases t with
    | true => rw [if_neg (by simp; omega)]; simp
    | false => rw [if_pos (.inr rfl)]; simp
theorem stay_pre (l : List (Nat × Bool)) (gf : Nat) : ∀ n i, i + n = l.length → ∃ r, stay l gf l.length = stay l gf i ++ r
  | 0, i, h => ⟨[], by rw [show i = l.length by omega]; simp⟩
  | n + 1, i, h => by
    obtain ⟨r, hr⟩ := stay_pre l gf n (i + 1) (by omega)
    obtain ⟨⟨a, t⟩, hx⟩ : ∃ x, l[i]? = some x := ⟨_, List.getElem?_eq_getElem (by omega)⟩
    rw [stay_step hx] at hr
    exact ⟨_, by rw [hr, List.append_assoc]⟩

/-- The j-th result that stays. -/
theorem stay_get {l l' : List (Nat × Bool)} {gf i r kl : Nat} {t : Bool} (hgf : gf ≤ l.length) (hi : l[i]? = some (r, t)) (hs : i < gf ∨ t = false) (hk : (kept (l.drop gf)).length = kl) (ht : l'.take (gf + kl) = l.take gf ++ kept (l.drop gf)) :
    (stay l gf i).length < gf + kl ∧ l'[(stay l gf i).length]? = some (r, t) := by
  have hil : i < l.length := (List.getElem?_eq_some_iff.1 hi).1
  obtain ⟨q, hq⟩ := stay_pre l gf (l.length - (i + 1)) (i + 1) (by omega)
  rw [stay_step hi, if_pos hs, stay_all l gf hgf] at hq
  have hlen : (l.take gf ++ kept (l.drop gf)).length = gf + kl := by simp [hk, Nat.min_eq_left hgf]
  have h1 : (stay l gf i).length < gf + kl := by rw [← hlen, hq]; simp
  refine ⟨h1, ?_⟩
  have h2 : (l'.take (gf + kl))[(stay l gf i).length]? = some (r, t) := by
    rw [ht, hq, List.append_assoc, List.getElem?_append_right (Nat.le_refl _)]
    simp
  rw [List.getElem?_take, if_pos h1] at h2
  exact h2
theorem stay_len {l : List (Nat × Bool)} {gf kl : Nat} (hgf : gf ≤ l.length) (hk : (kept (l.drop gf)).length = kl) : (stay l gf l.length).length = gf + kl := by
  rw [stay_all l gf hgf]; simp [hk, Nat.min_eq_left hgf]

/-- One round of the last look. -/
theorem round_facts {l l' : List (Nat × Bool)} {gf kl gk i j len : Nat} {tk : List Bool} {t : Bool} (hl : l.length = len) (hv : ∀ j, j < len → l[j]? = some (j, tk.getD j false)) (hgf : gf ≤ len) (hk : (kept (l.drop gf)).length = kl) (hgk : gf + kl = gk)
    (ht : l'.take gk = l.take gf ++ kept (l.drop gf)) (hi : i < len) (hj : (stay l gf i).length = j) (htq : tk.getD i false = t) :
    (gf ≤ i ∧ t = true ∧ (stay l gf (i + 1)).length = j) ∨ ((i < gf ∨ (gf ≤ i ∧ t = false)) ∧ j < gk ∧ l'[j]? = some (i, t) ∧ (stay l gf (i + 1)).length = j + 1) := by
  have hxi := hv i hi
  rw [htq] at hxi
  have hstep := stay_step (gf := gf) hxi
  by_cases hst : i < gf ∨ t = false
  · have hget := stay_get (l' := l') (by omega) hxi hst hk (by rw [hgk]; exact ht)
    rw [hj, hgk] at hget
    rw [if_pos hst] at hstep
    refine .inr ⟨?_, hget.1, hget.2, by rw [hstep, List.length_append, hj]; rfl⟩
    rcases Nat.lt_or_ge i gf with h | h
    · exact .inl h
    · exact .inr ⟨h, hst.resolve_left (by omega)⟩
  · rw [if_neg hst] at hstep
    refine .inl ⟨by omega, ?_, by rw [hstep, List.append_nil]; exact hj⟩
    cases t with
    | true => rfl
    | false => exact absurd (.inr rfl) hst
theorem round_last {l : List (Nat × Bool)} {gf kl gk j len : Nat} (hl : l.length = len) (hgf : gf ≤ len) (hk : (kept (l.drop gf)).length = kl) (hgk : gf + kl = gk) (hj : (stay l gf len).length = j) : j = gk := by
  have h1 := stay_len (l := l) (gf := gf) (by omega) hk
  rw [hl, hj, hgk] at h1
  exact h1
end Go.Proofs.YbulkblmiDoor
