/-
  An argument of type [16]byte, opened.
-/
import Derived.Test.YbulkbllgRows
import Derived.Test.YbulkbllgShare
import Derived.ProofKit
import Derived.OpenShut
namespace Go.Proofs.Ybulkbllg
open Go.ChangeShapes Go.WideShapes Go.ChangeAt Go.RowKit

theorem own : ownKnob Yba.prog.godebug = none := by kernel_rfl
theorem laidOut : laidOutB Yba.prog = true := by kernel_rfl
theorem cells22 : Yba.prog.cellsOf 22 = 16 := by kernel_rfl
theorem cells5 : Yba.prog.cellsOf 5 = 1 := by kernel_rfl

theorem u8_bounds {x : Int} (h : (Lit.int .u8 x).wf = true) : IsB x := by
  simp [Lit.wf, IntKind.min, IntKind.max, IntKind.signed, IntKind.bits] at h
  unfold IsB
  omega

theorem okWide_arr {w : World} {r : Reach} {base : Nat} {v : Value} (h : Value.okWide Yba.prog w r base 22 v) : ∃ cs, v = .agg cs ∧ cs.size = 16 := by
  simp only [Value.okWide, Yba.underlying22] at h
  obtain ⟨cs, h1, h2, _⟩ := h
  rw [cells22] at h2
  exact ⟨cs, h1, h2⟩

theorem open16 {H : Type} {enc : TypeId × Value → H} {W : World} {r : Reach} {base : Nat} {v : Value} {d : DataW H} {p : List MemPlace}
    (hv : Value.okWide Yba.prog W r base 22 v) (h : DataW.Trod enc Yba.prog W 0 (fun _ => true) true 22 v d p) : ∃ a : List Int, v = .agg (bv a) ∧ Is16 a := by
  obtain ⟨cs, rfl, hs⟩ := okWide_arr hv
  obtain ⟨fuel, hf⟩ := h
  obtain ⟨xs, m, _, _, hl, hxl, hx⟩ := DataW.trod_array Yba.underlying22 hf
  have each : ∀ i, i < 16 → ∃ n : Int, cs.toList[i]? = some (.int .u8 n) ∧ IsB n := by
    intro i hi
    have h1 := hx i hi
    rw [cells5, Nat.mul_one, List.getElem?_eq_getElem (by omega)] at h1
    obtain ⟨n, e, _, wn⟩ := DataW.trod_int Yba.underlying5 h1
    refine ⟨n, ?_, u8_bounds wn⟩
    have e2 : ((Value.agg cs).cells.toList.drop i).take 1 = [.int .u8 n] := e
    have e3 : (Value.agg cs).cells = cs := rfl
    rw [e3] at e2
    have : (cs.toList.drop i).head? = some (.int .u8 n) := by
      cases hd : cs.toList.drop i with
      | nil => rw [hd] at e2; simp at e2
      | cons y ys => rw [hd] at e2; simp at e2; simp [e2]
    simpa using this
  refine ⟨cs.toList.map intOf, ?_, ?_, ?_⟩
  · congr 1
    unfold bv
    apply Array.ext'
    rw [List.map_map]
    apply List.ext_getElem?
    intro i
    by_cases hi : i < 16
    · obtain ⟨n, hn, _⟩ := each i hi
      rw [hn]
      simp [hn, intOf]
    · rw [List.getElem?_eq_none (by simp; omega), List.getElem?_eq_none (by simp; omega)]
  · simp [hs]
  · intro i
    by_cases hi : i < 16
    · obtain ⟨n, hn, hb⟩ := each i hi
      rw [List.getD_eq_getElem?_getD, List.getElem?_map, hn]
      exact hb
    · rw [List.getD_eq_getElem?_getD, List.getElem?_eq_none (by simp; omega)]
      exact ⟨by simp, by simp⟩

end Go.Proofs.Ybulkbllg
