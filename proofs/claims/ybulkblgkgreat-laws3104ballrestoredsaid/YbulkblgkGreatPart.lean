/-
  protocol.NewParticipant, (*Participant).Restore.
-/
import Derived.Test.YbulkblgkGreatIter
import Derived.Maps.OwnSet
import Derived.Maps.AppendAt
import Derived.StringKeys
import Derived.WalkSmall
namespace Go.Proofs.YbulkblgkGreat
open Go.RowKit Go.Maps Go.Sort Go.Shelf

set_option maxHeartbeats 1000000 in
theorem newParticipant_calls (nm : ByteArray) (w : World) :
    Calls Ybaz.prog 4 #[.string nm] w fun e w' => e = .returned (.pointer (some ⟨w.heap.size + 1, 0, none⟩)) ∧ w' = (w.alloc (.map #[] 0)).alloc (.cells #[.string nm, .map (some w.heap.size)] 87) := by
  have hmm := @run_makeMap Ybaz.prog
  go_enter Ybaz.func4, Ybaz.ntmps4
  go_wp2
  go_ret
  exact ⟨rfl, by simp⟩

theorem size_le_of_ownsMap {P : Program} {k : TypeId} {R : Value → Option (DataW Unit × List MemPlace)} {w : World} {b n : Nat} {D : DataW Unit} (h : w.ownsMap P k R b n D) : Maps.size D ≤ n := by
  obtain ⟨es, clock, hb, F, hs, rfl⟩ := h
  show ((es.toList.map _).foldr DataW.insert []).length ≤ n
  rw [length_sorted]
  simpa using hs

abbrev noPromise : Value := .agg #[.string ⟨#[]⟩, .slice none 0 0, .map none, .map none, .string ⟨#[]⟩, .string ⟨#[]⟩]

set_option maxRecDepth 100000 in
set_option maxHeartbeats 1000000 in
theorem restore_calls (bp b nn : Nat) (D : DataW Unit) (S : Nat → Bool) (s : ByteArray) (w : World) (hs : s.size ≤ maxLen) (hnn : nn < 2000)
    (hmap : w.cell? ⟨bp, 1, none⟩ = some (.map (some b))) (hbp : bp < w.heap.size) (hown : w.ownsMap Ybaz.prog 9 (heldR S) b nn D) :
    Calls Ybaz.prog 5 #[.pointer (some ⟨bp, 0, none⟩), .string s, noPromise] w fun e w' => ∃ c, w.heap.size ≤ c ∧ c < w'.heap.size ∧ e = .returned (.pointer (some ⟨c, 0, none⟩)) ∧ w'.cell? ⟨c, 0, none⟩ = some (.bool true) ∧
      w'.ownsMap Ybaz.prog 9 (heldR (fun x => S x || x == c)) b (nn + 1) (D.put (.string s.data.toList) (.lit (.bool true))) ∧ w.grownBy w' (some b) := by
  go_enter Ybaz.func5, Ybaz.ntmps5
  have hbb := hown.lt
  have hown2 : ∀ o1 o2, ((w.alloc o1).alloc o2).ownsMap Ybaz.prog 9 (heldR (fun x => S x || x == w.heap.size + 1)) b nn D := fun o1 o2 => ownsMap_wider (fun c h => by simp [h]) ((hown.alloc o1).alloc o2)
  have hkey := Go.WideMaps.keyOf_string_mk Ybaz.underlying9 hs
  go_wp2_with (first
    | (at_mapUpdate; refine wpList_mapUpdate_own _ rfl _ _ _ 85 rfl 9 67 law9 Ybaz.underlying85 _ b nn D rfl (hown2 _ _) (by simp [maxLen]; omega) _ _ _ rfl rfl hkey _ [] (heldR_ok (by simp)) ?_; intro w1 hown1 hgrow1)
    | go_in)
  go_ret
  have hsz := hgrow1.size
  simp only [World.size_alloc] at hsz
  refine ⟨w.heap.size + 1, by omega, by omega, rfl, ?_, hown1, ?_⟩
  · refine (World.cell?_of_block (hgrow1.block (w.heap.size + 1) (by simp) (by intro e; cases e; omega))).trans ?_
    simp
  · exact ((World.grownBy_alloc w _ _).trans (World.grownBy_alloc _ _ _)).trans hgrow1
end Go.Proofs.YbulkblgkGreat
