/-
  THE ROW OF LawS3115ARound, AND ITS TIED CARD, PROVED.
-/
import Derived.Test.YbulkblmiDoorOpen
import Derived.Test.YbulkblmiDoorTie
import Derived.Test.YbulkblmiDoorCards
import Derived.Test.YbulkblmiDoorAny
import Derived.LaidMore
import Derived.Lay
import Derived.SevenTiedAt
import Derived.Stop.Joined
namespace Go.Proofs.YbulkblmiDoor
open Go.ChangeShapes Go.WideShapes Go.ChangeAt Go.RowKit

set_option maxRecDepth 100000 in
theorem lifted (os : Os) (started : os.Started) (H : Type) (enc : TypeId × Value → H) :
    ReturnsInHanded {} Ybad.checked os 3 .any (fun w args => (Rows.lawS3115ARoundSpec.pre enc Ybad.prog Ybad.f3 Rows.lawS3115ARoundRow.domain false w args ∧ laidMetH Ybad.prog Rows.lawS3115ARoundRow.laid w) ∧ sizedMet enc Ybad.prog Ybad.f3 (OpenSpec.ofChange Rows.lawS3115ARoundSpec) false w args)
      (Rows.lawS3115ARoundSpec.post enc Ybad.prog Ybad.f3 false true false false) := by
  refine returnsInHanded_of_change_and (C := Ybad.checked) (X := fun w _ => laidMetH Ybad.prog Rows.lawS3115ARoundRow.laid w) (fun _ _ _ hh h => h.of_heap hh) own started (by kernel_rfl) Ybad.func3
    (ChangeSpec.witness_shaped (enc := enc) (C := Ybad.checked) (os := os) (X := fun w _ => laidMetH Ybad.prog Rows.lawS3115ARoundRow.laid w) false (World.laidAll Ybad.prog os Rows.lawS3115ARoundRow.laid) #[.agg #[.int .u8 0, .int .u8 0, .int .u8 0, .int .u8 0, .int .u8 0, .int .u8 0, .int .u8 0, .int .u8 0, .int .u8 0, .int .u8 0, .bool false, .bool false, .bool false], .slice none 0 0] 8 (World.laidAll_os _ _ _)
      (World.shaped_of_ZipB (by kernel_rfl) (by kernel_rfl)) (by kernel_rfl) (by kernel_rfl) (by kernel_rfl)
      (by rw [MakeChecks.laidMetH_plain _ _ _ (by kernel_rfl)]; exact laidMet_laidAll _ (by kernel_rfl) (by kernel_rfl))) ?_
  intro W base args ds gs before hval0 hW _ _ _ _
  have hval : ∀ (j : Nat) t v, Ybad.f3.params[j]? = some t → args[j]? = some v → Value.okWide Ybad.prog W .any base t v := hval0
  have hW' := hW
  obtain ⟨p, q, hA0, hV, rfl, _, _⟩ := hW
  have hA : DataW.TrodAll enc Ybad.prog W 0 (fun _ => true) true Ybad.f3.params.toList args.toList ds p := hA0
  rw [Ybad.params3] at hA hval
  obtain ⟨v0, v1, d0, d1, p0, p1, rfl, rfl, rfl, h0, h1⟩ := trodAll_two hA
  obtain ⟨rfl, rfl⟩ := trodVars_none hV
  obtain ⟨ao, len, cap, rfl⟩ := okWide_slice Ybad.underlying24 (hval 1 24 v1 rfl rfl)
  have h0k := h0
  have h1k := h1
  obtain ⟨K, Nx, Fr, IL, Ps, En, NN, Mk, SE, GF, hs, ti, ta, rfl, k0, k1, k2, k3, k4, k5, k6, k7, k8, k9⟩ := open_in (hval 0 23 v0 rfl rfl) h0
  obtain ⟨fuel1, hf1⟩ := h1
  obtain ⟨hm, tk, htl, harg⟩ := open_tooks hf1
  clear hA0 hval0
  simp only [List.append_nil] at hW'
  have hlt0 : ∀ x ∈ p0, x.block < W.heap.size := fun x hx => by simpa using hW'.lt x (by simp [hx])
  have hlt1 : ∀ x ∈ p1, x.block < W.heap.size := fun x hx => by simpa using hW'.lt x (by simp [hx])
  have fin : ∀ (e : Ending) (W' : World), (e = .returned (.bool true) ∧ Below W.heap.size W W') → ∃ v, e = .returned v ∧ Rows.lawS3115ARoundSpec.post enc Ybad.prog Ybad.f3 false true false false W #[.agg (inCells K Nx Fr IL Ps En NN Mk SE GF hs ti ta), .slice ao len cap] v W' := by
    rintro e W' ⟨rfl, hbe⟩
    refine ⟨_, rfl, _, _, _, [], p0 ++ p1, [], hW', ?_, ?_, rfl, hbe.frame _, fun h => by cases h⟩
    · exact trodAll_mk1 (shut_bool Ybad.underlying4 _)
    · exact trodAll_mk2 (Below.trod laidOut (by kernel_rfl) (of_decide_eq_true (by kernel_rfl)) h0k hbe hlt0) (Below.trod laidOut (by kernel_rfl) (of_decide_eq_true (by kernel_rfl)) h1k hbe hlt1)
  by_cases hlong : 1024 < len
  · exact (law_long K Nx Fr IL Ps En NN Mk SE GF hs ti ta ao len cap W hlong hm).mono fin
  · exact (law_any K Nx Fr IL Ps En NN Mk SE GF hs ti ta ao len cap W k0 k1 k2 k3 k4 k5 k6 k7 k8 k9 (by omega) tk htl harg).mono fin

theorem round_holds : Rows.LawS3115ARoundSaid :=
  OpenClaim.holds_of_wide 3 Ybad.f3 rfl rfl rfl rfl rfl rfl rfl ⟨rfl, rfl, rfl, rfl, rfl⟩ rfl rfl rfl rfl rfl (by kernel_rfl) Ybad.func3 (by kernel_rfl)
    (of_decide_eq_true (by kernel_rfl)) (by unfold Func.isWrapper; rw [if_neg (of_decide_eq_false (by kernel_rfl))]; exact ⟨rfl, rfl⟩)
    (fun os started H enc _ => lifted os started H enc)

theorem round_card : Rows.LawS3115ARoundCardSaid :=
  Claim7.holds_tied_plain_at .later [] [.data, .data] true (true, "c205390a9cf3b6cf8c8ec6e6783e99d6523d81d8abd42423f8befb0243466c5a") false round_holds (fun _ h => by cases h) (by kernel_rfl) (fun _ h => by cases h) lawS3115ARound_row_tie rfl ⟨rfl, rfl⟩ (by kernel_rfl) rfl
    (fun f fn hf hfn => by
      obtain rfl : f = 3 := Option.some.inj ((show Ybad.prog.funcNamed Rows.lawS3115ARoundRow.func = some 3 by kernel_rfl).symm.trans hf) |>.symm
      obtain rfl : fn = Ybad.f3 := (Option.some.inj (Ybad.func3.symm.trans hfn)).symm
      exact ⟨by kernel_rfl, fun j t ht => by
        rw [Ybad.params3] at ht
        have hm : t ∈ [23, 24] := by simpa using Array.mem_of_getElem? ht
        have hall : ([23, 24].all fun u => !Ybad.prog.wantsStandIn u) = true := by kernel_rfl
        have h2 : Ybad.prog.wantsStandIn t = false := by simpa using List.all_eq_true.1 hall t hm
        exact h2⟩)
    (by kernel_rfl)
end Go.Proofs.YbulkblmiDoor
