/-
  THE TOLD CARD OF LawS3115CFaults.
-/
import Derived.Test.YbulkblmiFmtCards
import Derived.Test.YbulkblmiFmtLaw
import Derived.Test.YbulkblmiFmtZero
import Derived.Test.YbulkblmiFmtOpen
import Derived.ProofKit
import Derived.OpenShut
import Derived.Stop.JoinedAt
import Derived.Stop.JoinedTold
import Derived.SevenToldRow
namespace Go.Proofs.YbulkblmiFmt
open Go.ChangeShapes Go.WideShapes Go.ChangeAt Go.RowKit Go.Kit
open Go.Extern.Stop Go.Stop Go.Extern

theorem own : ownKnob Ybaf.prog.godebug = none := by kernel_rfl
theorem laidOut : laidOutB Ybaf.pinned.checked.prog = true := by kernel_rfl
theorem stops : Ybaf.pinned.checked.prog.stops = ["fmt.Sprintf"] := by kernel_rfl
theorem stopKnobs : Ybaf.pinned.checked.prog.stopKnobs = [] := by kernel_rfl
theorem quiet (os : Os) : Stop.quiet Ybaf.pinned.checked.prog os := by
  intro k hk
  rw [stopKnobs] at hk
  cases hk

/-- Whatever the rules are: true. -/
theorem law_any (F : Interp) (ao : Option Addr) (len cap : Nat) (W : World) (hF : F.answers W.tape) (hm : len ≤ maxLen) (h : len = 0 ∨ ∃ ab q, ao = some ⟨ab, q, none⟩ ∧ ∃ D : Nat → RuleD, RulesAt W ab q len D ∧ DataOk len D) :
    Calls Ybaf.prog 3 #[.slice ao len cap] W fun r w' => r = .returned (.bool true) ∧ Below W.heap.size W w' := by
  by_cases h0 : len = 0
  · subst h0
    exact law_zero F ao cap W hF
  · rcases h with h | ⟨ab, q, rfl, D, h1, h2⟩
    · exact absurd h h0
    · classical
      exact law_walk F ab q len cap D (fun t i => decide (Reach (graphOf len D) t i)) W hF (by omega) hm h2 h1 (fun t i _ _ => by simp)

set_option maxRecDepth 100000 in
theorem faults_lifted (os : Os) (started : os.Started) (H : Type) (enc : TypeId × Value → H) :
    ReturnsInTold none {} Ybaf.checked os 3 .any Input.okWide ((OpenSpec.ofChange Rows.lawS3115CFaultsSpec).preRow enc Ybaf.prog Ybaf.f3 [] false []) (fun F => ((OpenSpec.ofChange Rows.lawS3115CFaultsSpec).at F).post enc Ybaf.prog Ybaf.f3 false true false false) (aloneAtReturn Ybaf.prog) nothingAlways := by
  refine returnsInTold_of_row (C := Ybaf.checked) (s := OpenSpec.ofChange Rows.lawS3115CFaultsSpec) (by kernel_rfl) own started (by kernel_rfl) Ybaf.func3
    (OpenSpec.witness_stopped (enc := enc) (C := Ybaf.checked) false ⟨#[], #[.slice none 0 0], []⟩ 8 (by kernel_rfl) (by kernel_rfl) (by kernel_rfl) (by kernel_rfl)) ?_
  intro F W base args ds gs before _ hF hval0 hW _ _ _ _ _
  have hval : ∀ (j : Nat) t v, Ybaf.f3.params[j]? = some t → args[j]? = some v → Value.okWide Ybaf.prog W .any base t v := hval0
  have hW' := hW
  obtain ⟨p, q, hA0, hV, rfl, hfz, hnd⟩ := hW
  have hA : DataW.TrodAll enc Ybaf.prog W 0 (fun _ => true) true Ybaf.f3.params.toList args.toList ds p := hA0
  rw [Ybaf.params3] at hA hval
  obtain ⟨v0, d0, rfl, rfl, h0⟩ := trodAll_one hA
  obtain ⟨rfl, rfl⟩ := trodVars_none hV
  obtain ⟨ao, len, cap, rfl⟩ := okWide_slice Ybaf.underlying22 (hval 0 22 v0 rfl rfl)
  have h0k := h0
  obtain ⟨fuel, hf⟩ := h0
  clear hA0 hval0
  simp only [List.append_nil] at hW'
  have hlt : ∀ x ∈ p, x.block < W.heap.size := fun x hx => by simpa using hW'.lt x (by simp [hx])
  obtain ⟨hm, hin⟩ := open_rules (show DataW.trod enc Ybaf.prog W 0 (fun _ => true) true fuel 22 [.slice ao len cap] = some _ from hf)
  refine (law_any F.told ao len cap W hF hm hin).mono ?_
  rintro e W' ⟨rfl, hb⟩
  refine ⟨_, rfl, _, _, _, [], p, [], hW', ?_, ?_, rfl, hb.frame _, fun h => by cases h⟩
  · exact trodAll_mk1 (shut_bool Ybaf.underlying4 _)
  · exact trodAll_mk1 (Below.trod laidOut (by kernel_rfl) (of_decide_eq_true (by kernel_rfl)) h0k hb hlt)

theorem faults_told : Rows.LawS3115CFaultsToldSaid :=
  Claim7.holds_of_told_any 3 Ybaf.f3 "fmt.Sprintf" [] [] _ _ _ (by kernel_rfl) rfl rfl rfl laidOut (by kernel_rfl) rfl ⟨rfl, rfl, rfl, rfl, rfl, rfl, rfl⟩ rfl rfl (by kernel_rfl) (by kernel_rfl) Ybaf.func3 (by kernel_rfl)
    (of_decide_eq_true (by kernel_rfl)) (by unfold Func.isWrapper; rw [if_neg (of_decide_eq_false (by kernel_rfl))]; exact ⟨rfl, rfl⟩) stops.symm rfl stopKnobs.symm (by kernel_rfl)
    (by kernel_rfl) (by kernel_rfl) (by kernel_rfl) (by kernel_rfl) (by kernel_rfl) (by kernel_rfl) (by kernel_rfl) (by kernel_rfl) (by kernel_rfl) rfl (by kernel_rfl) rfl rfl
    rfl rfl
    rfl (by kernel_rfl) (by kernel_rfl) (by kernel_rfl) (by decide) (by kernel_rfl)
    (OpenClaim.moreEntering_of (by kernel_rfl) (by kernel_rfl) (by kernel_rfl) (by kernel_rfl) (by kernel_rfl) (by kernel_rfl) (by kernel_rfl) (by kernel_rfl) (by kernel_rfl) (by kernel_rfl))
    ⟨_, WideRow.started_initial, quiet _⟩
    (fun os started _ H enc _ => faults_lifted os started H enc)

end Go.Proofs.YbulkblmiFmt
