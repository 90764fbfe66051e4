/-
  THE ROW OF LawS3111BSearch, PROVED.
-/
import Derived.Test.YbulkblkeRows
import Derived.Test.YbulkblkeLaw
import Derived.ProofKit
import Derived.OpenShut
import Derived.Deep.SlicePairs
namespace Go.Proofs.Ybulkblke
open Go.ChangeShapes Go.WideShapes Go.ChangeAt Go.RowKit Go.Deep

theorem own : ownKnob Yba.prog.godebug = none := by kernel_rfl
theorem laidOut : laidOutB Yba.prog = true := by kernel_rfl
theorem cells39 : Yba.prog.cellsOf 39 = 2 := by kernel_rfl
theorem cells23 : Yba.prog.cellsOf 23 = 1 := by kernel_rfl

theorem u8_bounds {x : Int} (h : (Lit.int .u8 x).wf = true) : 0 ≤ x ∧ x ≤ 255 := by
  simp [Lit.wf, IntKind.min, IntKind.max, IntKind.signed, IntKind.bits] at h
  omega
theorem u32_bounds {x : Int} (h : (Lit.int .u32 x).wf = true) : 0 ≤ x ∧ x < 4294967296 := by
  simp [Lit.wf, IntKind.min, IntKind.max, IntKind.signed, IntKind.bits] at h
  omega

/-- The numbers of a slice of uint32, as the walk wants them. -/
theorem open_u32s {H : Type} {enc : TypeId × Value → H} {W : World} {fuel len cap : Nat} {ao : Option Addr} {x : DataW H × List MemPlace}
    (hf : DataW.trod enc Yba.prog W 0 (fun _ => true) true fuel 24 (Value.slice ao len cap).cells.toList = some x) :
    len ≤ maxLen ∧ ∃ A : List Int, A.length = len ∧ Row32 W W.heap.size ao A := by
  rcases open_ints Yba.underlying24 Yba.underlying23 cells23 hf with ⟨hcs, hx⟩ | ⟨a, len', cap', zs, hcs, _, hl, hm, hz, hx, hcell, hwz⟩
  · simp [Value.cells] at hcs
    obtain ⟨rfl, rfl, rfl⟩ := hcs
    exact ⟨by unfold maxLen; omega, [], rfl, fun k hk => absurd hk (by simp)⟩
  · simp [Value.cells] at hcs
    obtain ⟨rfl, rfl, rfl⟩ := hcs
    have hzl : zs.length = cap := by simpa using hz
    refine ⟨by omega, zs.take len, by simp; omega, fun k hk => ?_⟩
    have hk' : k < len := by simp at hk; omega
    obtain ⟨b, off, rfl, hc⟩ := ints_at hcell (by omega)
    refine ⟨b, off, rfl, World.block_lt_of_cell? W _ (hc k (by omega)), ?_⟩
    rw [hc k (by omega)]
    simp [List.getD_eq_getElem?_getD, hk']

theorem open_pairs {H : Type} {enc : TypeId × Value → H} {W : World} {fuel len cap : Nat} {ao : Option Addr} {x : DataW H × List MemPlace}
    (hf : DataW.trod enc Yba.prog W 0 (fun _ => true) true fuel 22 (Value.slice ao len cap).cells.toList = some x) :
    len ≤ maxLen ∧ ∃ D : List (Int × Int), D.length = len ∧ PairRow W W.heap.size ao D := by
  rcases open_slice_pairs Yba.underlying22 Yba.underlying39 cells39 rfl rfl cells23 cells23 hf with ⟨hcs, hx⟩ | ⟨a, len', cap', m, n, V0, V1, D0, D1, P0, P1, hcs, _, hl, hm, hmm, hx, hc⟩
  · simp [Value.cells] at hcs
    obtain ⟨rfl, rfl, rfl⟩ := hcs
    exact ⟨by unfold maxLen; omega, [], rfl, fun k hk => absurd hk (by simp)⟩
  · simp [Value.cells] at hcs
    obtain ⟨rfl, rfl, rfl⟩ := hcs
    have hml : m = cap := by simpa using hmm
    have each : ∀ i, i < len → ∃ t p : Int, V0 i = .int .u32 t ∧ V1 i = .int .u32 p := fun i hi => by
      obtain ⟨h1, h2, h3, h4⟩ := hc i (by omega)
      obtain ⟨t, e0, _⟩ := DataW.trod_int Yba.underlying23 h3
      obtain ⟨p, e1, _⟩ := DataW.trod_int Yba.underlying23 h4
      exact ⟨t, p, by simpa using e0, by simpa using e1⟩
    refine ⟨by omega, (List.range len).map fun i => (intOf (V0 i), intOf (V1 i)), by simp, fun k hk => ?_⟩
    have hk' : k < len := by simpa using hk
    obtain ⟨h1, h2, _, _⟩ := hc k (by omega)
    obtain ⟨t, p, e0, e1⟩ := each k hk'
    obtain ⟨b, off, spot⟩ := a
    have hspot : spot = none := by simpa [Addr.add] using World.cell?_spot (hc 0 (by omega)).1
    subst hspot
    have hD : ((List.range len).map fun i => (intOf (V0 i), intOf (V1 i))).getD k (0, 0) = (t, p) := by
      simp [List.getD_eq_getElem?_getD, hk', e0, e1, intOf]
    rw [hD]
    rw [Addr.add_lit, e0] at h1
    rw [Addr.add_lit, e1, ← Nat.add_assoc] at h2
    exact ⟨b, off, rfl, World.block_lt_of_cell? W _ h1, h1, h2⟩

set_option maxRecDepth 100000 in
theorem lifted (os : Os) (started : os.Started) (H : Type) (enc : TypeId × Value → H) :
    ReturnsInHanded {} Yba.checked os 3 .any (Rows.lawS3111BSearchSpec.pre6 enc Yba.prog Yba.f3 Rows.lawS3111BSearchRow.domain false) (Rows.lawS3111BSearchSpec.post enc Yba.prog Yba.f3 false true false false) := by
  refine returnsInHanded_of_change (C := Yba.checked) own started (by kernel_rfl) Yba.func3
    (ChangeSpec.witness6 (enc := enc) (C := Yba.checked) false ⟨#[], #[.int .u8 0, .slice none 0 0, .int .u32 0, .slice none 0 0], []⟩ 8 (by kernel_rfl) (by kernel_rfl) (by kernel_rfl) (by kernel_rfl)) ?_
  intro W base args ds gs before hval0 hW hcnd _
  have hval : ∀ (j : Nat) t v, Yba.f3.params[j]? = some t → args[j]? = some v → Value.okWide Yba.prog W .any base t v := hval0
  have hW' := hW
  obtain ⟨p, q, hA0, hV, rfl, hfz, hnd⟩ := hW
  have hA : DataW.TrodAll enc Yba.prog W 0 (fun _ => true) true Yba.f3.params.toList args.toList ds p := hA0
  rw [Yba.params3] at hA hval
  obtain ⟨v0, v1, v2, v3, d0, d1, d2, d3, p0, p1, p2, p3, rfl, rfl, rfl, h0, h1, h2, h3⟩ := trodAll_four hA
  obtain ⟨rfl, rfl⟩ := trodVars_none hV
  obtain ⟨k, rfl, rfl, rfl, wk⟩ := open_int Yba.underlying5 (hval 0 5 v0 rfl rfl) h0
  obtain ⟨aoD, lenD, capD, rfl⟩ := okWide_slice Yba.underlying22 (hval 1 22 v1 rfl rfl)
  obtain ⟨tag, rfl, rfl, rfl, wt⟩ := open_int Yba.underlying23 (hval 2 23 v2 rfl rfl) h2
  obtain ⟨aoA, lenA, capA, rfl⟩ := okWide_slice Yba.underlying24 (hval 3 24 v3 rfl rfl)
  have h1k := h1
  have h3k := h3
  obtain ⟨fuel1, hf1⟩ := h1
  obtain ⟨fuel3, hf3⟩ := h3
  clear hA0 hval0
  simp only [List.append_nil] at hW'
  have hlt1 : ∀ x ∈ p1, x.block < W.heap.size := fun x hx => by simpa using hW'.lt x (by simp [hx])
  have hlt3 : ∀ x ∈ p3, x.block < W.heap.size := fun x hx => by simpa using hW'.lt x (by simp [hx])
  have fin : ∀ (e : Ending) (W' : World), (e = .returned (.bool true) ∧ Below W.heap.size W W') → ∃ v, e = .returned v ∧ Rows.lawS3111BSearchSpec.post enc Yba.prog Yba.f3 false true false false W #[.int .u8 k, .slice aoD lenD capD, .int .u32 tag, .slice aoA lenA capA] v W' := by
    rintro e W' ⟨rfl, hb⟩
    refine ⟨_, rfl, _, _, _, [], [] ++ (p1 ++ ([] ++ p3)), [], hW', ?_, ?_, rfl, hb.frame _, fun h => by cases h⟩
    · exact trodAll_mk1 (shut_bool Yba.underlying4 _)
    · exact trodAll_mk4 (shut_int Yba.underlying5 wk) (Below.trod laidOut (by kernel_rfl) (of_decide_eq_true (by kernel_rfl)) h1k hb hlt1) (shut_int Yba.underlying23 wt) (Below.trod laidOut (by kernel_rfl) (of_decide_eq_true (by kernel_rfl)) h3k hb hlt3)
  obtain ⟨hmA, A, hA1, hA2⟩ := open_u32s hf3
  obtain ⟨hmD, D, hD1, hD2⟩ := open_pairs hf1
  have bk := u8_bounds wk
  have bt := u32_bounds wt
  by_cases hlong : 1024 < lenA
  · exact (law_long k tag (.slice aoD lenD capD) aoA lenA capA W hlong hmA).mono fin
  · subst hA1
    subst hD1
    exact (law_any k tag aoD capD D aoA capA A W bk.1 bk.2 bt.1 bt.2 hmD (by omega) hD2 hA2).mono fin

theorem search_holds : Rows.LawS3111BSearchSaid :=
  OpenClaim.holds_of_wide 3 Yba.f3 rfl rfl rfl rfl rfl rfl rfl ⟨rfl, rfl, rfl, rfl, rfl⟩ rfl rfl rfl rfl rfl (by kernel_rfl) Yba.func3 (by kernel_rfl)
    (of_decide_eq_true (by kernel_rfl)) (by unfold Func.isWrapper; rw [if_neg (of_decide_eq_false (by kernel_rfl))]; exact ⟨rfl, rfl⟩)
    (fun os started H enc _ => lifted os started H enc)

end Go.Proofs.Ybulkblke
