/-
  The plain law: the distinct members sorted are the sorted list without its repetitions; and the slices' contracts in one shape.
-/
import Derived.Test.YbulkblgkGreatShelf
import Derived.Sort.KeysCollected
import Derived.WalkKit
import Derived.Lib.RowBridge
import Derived.Maps.AppendAt
namespace Go.Proofs.YbulkblgkGreat
open Go.RowKit Go.Maps Go.Sort Go.Shelf Go.Lib

theorem leB_tr (a b c : List UInt8) (h1 : leB a b = true) (h2 : leB b c = true) : leB a c = true := by simp only [leB, decide_eq_true_eq] at *; exact List.le_trans h1 h2
theorem leB_to (a b : List UInt8) : (leB a b || leB b a) = true := by simp only [leB, Bool.or_eq_true, decide_eq_true_eq]; exact List.le_total a b
theorem leB_anti {a b : List UInt8} (h1 : leB a b = true) (h2 : leB b a = true) : a = b := by simp only [leB, decide_eq_true_eq] at *; exact List.le_antisymm h1 h2

theorem compactUpTo_sorted (d : Array (List UInt8)) : ∀ m, m ≤ d.size → (∀ i j, i ≤ j → j < m → leB d[i]! d[j]! = true) →
    (compactUpTo d m).Pairwise (fun a b => leB a b = true) ∧ (compactUpTo d m).Nodup ∧ ∀ x, x ∈ compactUpTo d m ↔ ∃ j, j < m ∧ d[j]! = x := by
  intro m
  induction m with
  | zero => intro _ _; simp [compactUpTo]
  | succ m ih =>
    intro hm hs
    obtain ⟨hp, hn, hx⟩ := ih (by omega) (fun i j hij hj => hs i j hij (by omega))
    rw [compactUpTo_succ]
    by_cases hk : keeps d m = true
    · rw [if_pos hk]
      have hne : ∀ x ∈ compactUpTo d m, x ≠ d[m]! := by
        intro x hxm e
        obtain ⟨j, hj, rfl⟩ := (hx x).1 hxm
        have h1 : leB d[j]! d[m - 1]! = true := hs j (m - 1) (by omega) (by omega)
        have h2 : leB d[m - 1]! d[m]! = true := hs (m - 1) m (by omega) (by omega)
        rw [e] at h1
        have e2 := leB_anti h1 h2
        unfold keeps at hk
        simp only [decide_eq_true_eq] at hk
        rcases hk with h0 | h0
        · omega
        · exact h0 e2
      refine ⟨?_, ?_, ?_⟩
      · rw [List.pairwise_append]
        refine ⟨hp, by simp, ?_⟩
        intro a ha b hb
        obtain ⟨j, hj, rfl⟩ := (hx a).1 ha
        simp only [List.mem_singleton] at hb
        subst hb
        exact hs j m (by omega) (by omega)
      · rw [List.nodup_append]
        refine ⟨hn, by simp, ?_⟩
        intro a ha b hb
        simp only [List.mem_singleton] at hb
        subst hb
        exact hne a ha
      · intro x
        rw [List.mem_append, hx x]
        constructor
        · rintro (⟨j, hj, e⟩ | h)
          · exact ⟨j, by omega, e⟩
          · simp only [List.mem_singleton] at h
            exact ⟨m, by omega, h.symm⟩
        · rintro ⟨j, hj, e⟩
          rcases Nat.lt_or_ge j m with h | h
          · exact .inl ⟨j, h, e⟩
          · obtain rfl : j = m := by omega
            exact .inr (by simp [e])
    · rw [if_neg hk, List.append_nil]
      refine ⟨hp, hn, fun x => ?_⟩
      rw [hx x]
      unfold keeps at hk
      simp only [decide_eq_true_eq, not_or, Decidable.not_not] at hk
      constructor
      · rintro ⟨j, hj, e⟩
        exact ⟨j, by omega, e⟩
      · rintro ⟨j, hj, e⟩
        rcases Nat.lt_or_ge j m with h | h
        · exact ⟨j, h, e⟩
        · obtain rfl : j = m := by omega
          exact ⟨j - 1, by omega, by rw [← hk.2]; exact e⟩

/-- The distinct members, sorted: the sorted list without its repetitions. -/
theorem plain_law (ks tids : List (List UInt8)) (hn : ks.Nodup) (hm : ∀ x, x ∈ ks ↔ x ∈ tids) : ks.mergeSort leB = Lib.compact (tids.mergeSort leB) := by
  have hsrt := List.pairwise_mergeSort leB_tr leB_to tids
  have hget : ∀ j, ∀ hj : j < (tids.mergeSort leB).length, (tids.mergeSort leB).toArray[j]! = (tids.mergeSort leB)[j]'hj := fun j hj => getElem!_pos (tids.mergeSort leB).toArray j hj
  have hs : ∀ i j, i ≤ j → j < (tids.mergeSort leB).length → leB (tids.mergeSort leB).toArray[i]! (tids.mergeSort leB).toArray[j]! = true := by
    intro i j hij hj
    rcases Nat.lt_or_ge i j with h | h
    · have := List.pairwise_iff_getElem.1 hsrt i j (by omega) hj h
      rw [hget i (by omega), hget j hj]; exact this
    · obtain rfl : i = j := by omega
      simp only [leB, decide_eq_true_eq]
      exact List.le_refl _
  obtain ⟨hp, hnd, hx⟩ := compactUpTo_sorted (tids.mergeSort leB).toArray (tids.mergeSort leB).length (by simp) hs
  refine List.Perm.eq_of_pairwise (le := fun a b => leB a b = true) (fun a b _ _ h1 h2 => leB_anti h1 h2) (List.pairwise_mergeSort leB_tr leB_to ks) hp ?_
  refine (List.mergeSort_perm ks leB).trans ((List.perm_ext_iff_of_nodup hn hnd).2 fun x => ?_)
  rw [hm x, hx x, ← (List.mergeSort_perm tids leB).mem_iff]
  constructor
  · intro h
    obtain ⟨j, hj, e⟩ := List.getElem_of_mem h
    exact ⟨j, hj, by rw [hget j hj]; exact e⟩
  · rintro ⟨j, hj, rfl⟩
    rw [hget j hj]; exact List.getElem_mem hj

/-- The slice (a, len ks, cap) lies from base on and holds ks; or there is nothing to hold. -/
def Strs (w : World) (base : Nat) (a : Option Addr) (cap : Nat) (ks : List (List UInt8)) : Prop :=
  ks.length ≤ cap ∧ (ks = [] ∨ ∃ g, a = some ⟨g, 0, none⟩ ∧ base ≤ g ∧ g < w.heap.size ∧ Holds encStr w g 0 ks.toArray)

theorem grownBy_refl' (w : World) (r : Option Nat) : w.grownBy w r := ⟨rfl, rfl, rfl, Nat.le_refl _, fun _ _ _ => rfl⟩

theorem Strs.kept {w w' : World} {base cap : Nat} {a : Option Addr} {ks : List (List UInt8)} {row : Option Nat} (h : Strs w base a cap ks) (hg : w.grownBy w' row) (hne : ∀ g, a = some ⟨g, 0, none⟩ → g < w.heap.size → some g ≠ row) : Strs w' base a cap ks := by
  obtain ⟨hc, (h | ⟨g, rfl, hb, hl, hH⟩)⟩ := h
  · exact ⟨hc, .inl h⟩
  · refine ⟨hc, .inr ⟨g, rfl, hb, Nat.lt_of_lt_of_le hl hg.size, fun j hj => ?_⟩⟩
    have hbk := hg.block g hl (hne g rfl hl)
    exact ⟨(World.cell?_of_block (a := ⟨g, 0 + j, none⟩) hbk).trans (hH j hj).1, (World.frozen?_of_block (a := ⟨g, 0 + j, none⟩) hbk).trans (hH j hj).2⟩

theorem heap_putRow_other (w : World) (g off : Nat) (d : Array (List UInt8)) (k : Nat) (hk : k ≠ g) : (putRow encStr w g off d).heap[k]? = w.heap[k]? := by
  simp [putRow, mapBlock, Array.getElem?_modify, Ne.symm hk]

theorem sort_strs (base cap : Nat) (a : Option Addr) (ks : List (List UInt8)) (w : World) (hl : ks.length ≤ 1024) (h : Strs w base a cap ks) :
    Calls Ybaz.prog 8 #[.slice a ks.length cap] w fun e w' => e = .returned (.tuple #[]) ∧ Strs w' base a cap (ks.mergeSort leB) ∧ ∃ row, w.grownBy w' row ∧ ∀ k, row = some k → base ≤ k := by
  obtain ⟨hc, (rfl | ⟨g, rfl, hb, hgl, hH⟩)⟩ := h
  · refine (Ybaz.slices_Sort_string_none a cap w).mono ?_
    rintro e w' ⟨rfl, rfl⟩
    exact ⟨rfl, ⟨by simp, .inl (by simp)⟩, none, grownBy_refl' _ _, fun k e => by cases e⟩
  · refine (Ybaz.slices_Sort_string g 0 cap ks w hH hgl (by omega)).mono ?_
    rintro e w' ⟨rfl, n, os, rfl⟩
    refine ⟨rfl, ⟨by simpa using hc, .inr ⟨g, rfl, hb, by simp; omega, ?_⟩⟩, some g, ?_, fun k e => by cases e; exact hb⟩
    · exact holds_grow _ _ _ _ _ _ (by simpa using hgl) (holds_putRow _ _ _ _ _ _ (holds_ahead _ _ n _ _ _ hH) (by simp))
    · refine ⟨rfl, rfl, rfl, by simp, fun k hk hne => ?_⟩
      rw [heap_grow_old _ _ (by simpa using hk)]
      exact heap_putRow_other _ _ _ _ _ (fun e => hne (by rw [e]))

theorem compact_strs (base cap : Nat) (a : Option Addr) (ks : List (List UInt8)) (w : World) (hl : ks.length ≤ 1024) (h : Strs w base a cap ks) :
    Calls Ybaz.prog 9 #[.slice a ks.length cap] w fun e w' => e = .returned (.slice a (Lib.compact ks).length cap) ∧ Strs w' base a cap (Lib.compact ks) ∧ ∃ row, w.grownBy w' row ∧ ∀ k, row = some k → base ≤ k := by
  obtain ⟨hc, (rfl | ⟨g, rfl, hb, hgl, hH⟩)⟩ := h
  · refine (Ybaz.slices_Compact_string_empty a cap w).mono ?_
    rintro e w' ⟨rfl, rfl⟩
    exact ⟨rfl, ⟨by simp [Lib.compact, compactUpTo], .inl (by simp [Lib.compact, compactUpTo])⟩, none, grownBy_refl' _ _, fun k e => by cases e⟩
  · refine (Ybaz.slices_Compact_string g 0 cap ks w hH (by omega) hc).mono ?_
    rintro e w' ⟨rfl, q, rfl⟩
    have hle := compact_length_le ks
    refine ⟨rfl, ⟨by omega, .inr ⟨g, rfl, hb, by simpa using hgl, ?_⟩⟩, some g, ?_, fun k e => by cases e; exact hb⟩
    · have hall := holds_putRow encStr (Sort.ahead w q) g 0 ks.toArray (Lib.compact ks ++ List.replicate (ks.length - (Lib.compact ks).length) []).toArray (holds_ahead _ _ q _ _ _ hH) (by simp; omega)
      intro j hj
      have hj' : j < (Lib.compact ks).length := by simpa using hj
      have := hall j (by simp; omega)
      refine ⟨this.1.trans ?_, this.2⟩
      have e1 : (Lib.compact ks ++ List.replicate (ks.length - (Lib.compact ks).length) []).toArray[j]! = (Lib.compact ks).toArray[j]! := by
        rw [getElem!_pos _ j (by simp; omega), getElem!_pos _ j (by simpa using hj')]
        simp [hj']
      rw [e1]
    · exact ⟨rfl, rfl, rfl, by simp, fun k hk hne => heap_putRow_other _ _ _ _ _ (fun e => hne (by rw [e]))⟩

/-- The argument: the slice (ao, len tids, cap) lies below B and holds tids. -/
def ArgStrs (w : World) (B : Nat) (ao : Option Addr) (tids : List ByteArray) : Prop :=
  tids = [] ∨ ∃ b off, ao = some ⟨b, off, none⟩ ∧ b < B ∧ ∀ j, j < tids.length → w.cell? ⟨b, off + j, none⟩ = some (.string (tids.getD j ByteArray.empty))

theorem ArgStrs.below {w w' : World} {B : Nat} {ao : Option Addr} {tids : List ByteArray} (h : ArgStrs w B ao tids) (hb : Below B w w') : ArgStrs w' B ao tids := by
  rcases h with h | ⟨b, off, ha, hl, hc⟩
  · exact .inl h
  · exact .inr ⟨b, off, ha, hl, fun j hj => (hb.cell (p := ⟨b, off + j, none⟩) hl).trans (hc j hj)⟩

abbrev bytesOf (tids : List ByteArray) : List (List UInt8) := tids.map (fun s => s.data.toList)

theorem holds_of_ownsRow {w : World} {base n g cap : Nat} {ks : List (List UInt8)} (h : w.ownsRow base 9 1 (.slice (some ⟨g, 0, none⟩) n cap) n (ks.map encStr)) : n = ks.length ∧ n ≤ cap ∧ base ≤ g ∧ g < w.heap.size ∧ Holds encStr w g 0 ks.toArray := by
  obtain ⟨hl, (⟨h, _⟩ | ⟨g', cap', cur, hv, hg, hgb, hnc, _, hcs, htk⟩)⟩ := h
  · cases h
  · cases hv
    have hn : n = ks.length := by simpa using hl.symm
    refine ⟨hn, hnc, hg, (Array.getElem?_eq_some_iff.1 hgb).1, fun j hj => ?_⟩
    have hj' : j < ks.length := by simpa using hj
    have hcur : cur[j]? = some (encStr ks[j]) := by
      have : (cur.toList.take (n * 1))[j]? = (ks.map encStr)[j]? := by rw [htk]
      rw [List.getElem?_take_of_lt (by omega)] at this
      simpa [hj'] using this
    constructor
    · rw [getElem!_pos _ j hj]
      simp [World.cell?, hgb, hcur]
    · simp [World.frozen?, hgb]

theorem clone_strs (B cap : Nat) (ao : Option Addr) (tids : List ByteArray) (w : World) (hl : tids.length ≤ 1024) (h : ArgStrs w B ao tids) :
    Calls Ybaz.prog 7 #[.slice ao tids.length cap] w fun e w' => ∃ a c, e = .returned (.slice a tids.length c) ∧ Strs w' w.heap.size a c (bytesOf tids) ∧ Below w.heap.size w w' := by
  rcases h with rfl | ⟨b, off, rfl, hb, hc⟩
  · cases ao with
    | none =>
      refine (Ybaz.slices_Clone_string_nil 0 cap w).mono ?_
      rintro e w' ⟨rfl, rfl⟩
      exact ⟨none, 0, rfl, ⟨by simp, .inl rfl⟩, Below.refl _ _⟩
    | some a =>
      refine (Ybaz.slices_Clone_string_zero a cap w).mono ?_
      rintro e w' ⟨v', rfl, hown, hne, hbl⟩
      obtain ⟨_, (⟨h, _⟩ | ⟨g, c, cur, rfl, _⟩)⟩ := hown
      · exact absurd h hne
      · exact ⟨_, c, rfl, ⟨by simp, .inl rfl⟩, hbl⟩
  · refine (Ybaz.slices_Clone_string b off tids.length cap tids w (Nat.le_refl _) (by omega) hc).mono ?_
    rintro e w' ⟨v', rfl, hown, hne, hbl⟩
    have hown' := hown
    obtain ⟨_, (⟨h, _⟩ | ⟨g, c, cur, rfl, _⟩)⟩ := hown
    · exact absurd h hne
    · have hrow : w'.ownsRow w.heap.size 9 1 (.slice (some ⟨g, 0, none⟩) tids.length c) tids.length ((bytesOf tids).map encStr) := by
        have e : (tids.take tids.length).map Value.string = (bytesOf tids).map encStr := by
          simp [bytesOf, encStr]
        rw [← e]; exact hown'
      obtain ⟨_, h1, h2, h3, h4⟩ := holds_of_ownsRow hrow
      exact ⟨_, c, rfl, ⟨by simpa using h1, .inr ⟨g, rfl, h2, h3, h4⟩⟩, hbl⟩

theorem equal_strs (B1 B2 c1 c2 : Nat) (a1 a2 : Option Addr) (xs : List (List UInt8)) (w : World) (hl : xs.length ≤ 1024) (h1 : Strs w B1 a1 c1 xs) (h2 : Strs w B2 a2 c2 xs) :
    Calls Ybaz.prog 10 #[.slice a1 xs.length c1, .slice a2 xs.length c2] w fun e w' => e = .returned (.bool true) ∧ ∃ q, w' = w.drewN q := by
  obtain ⟨_, (rfl | ⟨g1, rfl, _, _, hH1⟩)⟩ := h1
  · refine (Ybaz.slices_Equal_string_empty a1 a2 c1 0 c2 w (by decide)).mono ?_
    rintro e w' ⟨rfl, rfl⟩
    exact ⟨rfl, 0, by simp [World.drewN]⟩
  · obtain ⟨_, (rfl | ⟨g2, rfl, _, _, hH2⟩)⟩ := h2
    · refine (Ybaz.slices_Equal_string_empty _ a2 c1 0 c2 w (by decide)).mono ?_
      rintro e w' ⟨rfl, rfl⟩
      exact ⟨rfl, 0, by simp [World.drewN]⟩
    · have hcell : ∀ g, Holds encStr w g 0 xs.toArray → ∀ j, j < (xs.map (fun x => (⟨x.toArray⟩ : ByteArray))).length → w.cell? ⟨g, 0 + j, none⟩ = some (.string ((xs.map (fun x => (⟨x.toArray⟩ : ByteArray))).getD j ByteArray.empty)) := by
        intro g hH j hj
        have hj' : j < xs.length := by simpa using hj
        have := (hH j (by simpa using hj')).1
        rw [getElem!_pos _ j (by simpa using hj')] at this
        rw [this]
        simp [encStr, List.getD_eq_getElem?_getD, hj']
      refine (Ybaz.slices_Equal_string g1 0 xs.length c1 g2 0 xs.length c2 (xs.map (fun x => (⟨x.toArray⟩ : ByteArray))) (xs.map (fun x => (⟨x.toArray⟩ : ByteArray))) w (by simp) (by simp) (by omega) (by omega) (hcell g1 hH1) (hcell g2 hH2)).mono ?_
      rintro e w' ⟨rfl, h⟩
      exact ⟨by simp, h⟩

end Go.Proofs.YbulkblgkGreat
