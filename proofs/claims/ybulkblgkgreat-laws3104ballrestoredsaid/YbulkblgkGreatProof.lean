/-
  THE ROW OF LawS3104BAllRestored, PROVED.
-/
import Derived.Test.YbulkblgkGreatRows
import Derived.Test.YbulkblgkGreatLaw
import Derived.ProofKit
import Derived.OpenShut
import Derived.SliceStrings
namespace Go.Proofs.YbulkblgkGreat
open Go.ChangeShapes Go.WideShapes Go.ChangeAt Go.RowKit

theorem own : ownKnob Ybaz.prog.godebug = none := by kernel_rfl
theorem laidOut : laidOutB Ybaz.prog = true := by kernel_rfl
theorem cells9 : Ybaz.prog.cellsOf 9 = 1 := by kernel_rfl

theorem open_tids {H : Type} {enc : TypeId × Value → H} {W : World} {fuel len cap : Nat} {ao : Option Addr} {x : DataW H × List MemPlace}
    (hf : DataW.trod enc Ybaz.prog W 0 (fun _ => true) true fuel 22 (Value.slice ao len cap).cells.toList = some x) :
    len ≤ maxLen ∧ ∃ T : List ByteArray, T.length = len ∧ ArgStrs W W.heap.size ao T ∧ ∀ s ∈ T, s.size ≤ maxLen := by
  rcases open_strings Ybaz.underlying22 Ybaz.underlying9 cells9 hf with ⟨hcs, hx⟩ | ⟨a, len', cap', ss, hcs, _, hl, hm, hz, hx, hcell, hws⟩
  · simp [Value.cells] at hcs
    obtain ⟨rfl, rfl, rfl⟩ := hcs
    exact ⟨by unfold maxLen; omega, [], rfl, .inl rfl, by simp⟩
  · simp [Value.cells] at hcs
    obtain ⟨rfl, rfl, rfl⟩ := hcs
    have hzl : ss.length = cap := by simpa using hz
    refine ⟨by omega, ss.take len, by simp; omega, ?_, fun s hs => hws s (List.mem_of_mem_take hs)⟩
    by_cases h0 : len = 0
    · subst h0; exact .inl (by simp)
    · obtain ⟨b, off, spot⟩ := a
      have hspot : spot = none := by simpa [Addr.add] using World.cell?_spot (hcell 0 (by omega))
      subst hspot
      refine .inr ⟨b, off, rfl, World.block_lt_of_cell? W _ (hcell 0 (by omega)), fun j hj => ?_⟩
      have hj' : j < len := by simp at hj; omega
      have := hcell j (by omega)
      rw [Addr.add_lit] at this
      rw [this]
      simp [List.getD_eq_getElem?_getD, hj']

set_option maxRecDepth 100000 in
theorem lifted (os : Os) (started : os.Started) (H : Type) (enc : TypeId × Value → H) :
    ReturnsInHanded {} Ybaz.checked os 3 .any (Rows.lawS3104BAllRestoredSpec.pre6 enc Ybaz.prog Ybaz.f3 Rows.lawS3104BAllRestoredRow.domain false) (Rows.lawS3104BAllRestoredSpec.post enc Ybaz.prog Ybaz.f3 false true false false) := by
  refine returnsInHanded_of_change (C := Ybaz.checked) own started (by kernel_rfl) Ybaz.func3
    (ChangeSpec.witness6 (enc := enc) (C := Ybaz.checked) false ⟨#[], #[.slice none 0 0], []⟩ 8 (by kernel_rfl) (by kernel_rfl) (by kernel_rfl) (by kernel_rfl)) ?_
  intro W base args ds gs before hval0 hW hcnd _
  have hval : ∀ (j : Nat) t v, Ybaz.f3.params[j]? = some t → args[j]? = some v → Value.okWide Ybaz.prog W .any base t v := hval0
  have hW' := hW
  obtain ⟨p, q, hA0, hV, rfl, hfz, hnd⟩ := hW
  have hA : DataW.TrodAll enc Ybaz.prog W 0 (fun _ => true) true Ybaz.f3.params.toList args.toList ds p := hA0
  rw [Ybaz.params3] at hA hval
  obtain ⟨v0, d0, rfl, rfl, h0⟩ := trodAll_one hA
  obtain ⟨rfl, rfl⟩ := trodVars_none hV
  obtain ⟨ao, len, cap, rfl⟩ := okWide_slice Ybaz.underlying22 (hval 0 22 v0 rfl rfl)
  have h0k := h0
  obtain ⟨fuel0, hf0⟩ := h0
  clear hA0 hval0
  simp only [List.append_nil] at hW'
  have hlt0 : ∀ x ∈ p, x.block < W.heap.size := fun x hx => by simpa using hW'.lt x (by simp [hx])
  have fin : ∀ (e : Ending) (W' : World), (e = .returned (.bool true) ∧ Below W.heap.size W W') → ∃ v, e = .returned v ∧ Rows.lawS3104BAllRestoredSpec.post enc Ybaz.prog Ybaz.f3 false true false false W #[.slice ao len cap] v W' := by
    rintro e W' ⟨rfl, hb⟩
    refine ⟨_, rfl, _, _, _, [], p, [], hW', ?_, ?_, rfl, hb.frame _, fun h => by cases h⟩
    · exact trodAll_mk1 (shut_bool Ybaz.underlying4 _)
    · exact trodAll_mk1 (Below.trod laidOut (by kernel_rfl) (of_decide_eq_true (by kernel_rfl)) h0k hb hlt0)
  obtain ⟨hm, T, hT1, hT2, hT3⟩ := open_tids hf0
  by_cases hlong : 1024 < len
  · exact (law_long ao len cap W hlong hm).mono fin
  · subst hT1
    exact (law_any ao cap T W (by omega) hT2 hT3).mono fin

theorem restored_holds : Rows.LawS3104BAllRestoredSaid :=
  OpenClaim.holds_of_wide 3 Ybaz.f3 rfl rfl rfl rfl rfl rfl rfl ⟨rfl, rfl, rfl, rfl, rfl⟩ rfl rfl rfl rfl rfl (by kernel_rfl) Ybaz.func3 (by kernel_rfl)
    (of_decide_eq_true (by kernel_rfl)) (by unfold Func.isWrapper; rw [if_neg (of_decide_eq_false (by kernel_rfl))]; exact ⟨rfl, rfl⟩)
    (fun os started H enc _ => lifted os started H enc)

end Go.Proofs.YbulkblgkGreat
