/-
  The law's arguments, opened.
-/
import Derived.Test.YbulkblmiDoorRows
import Derived.ProofKit
import Derived.OpenShut
import Derived.Deep.Grids
namespace Go.Proofs.YbulkblmiDoor
open Go.ChangeShapes Go.WideShapes Go.ChangeAt Go.RowKit Go.Deep

theorem own : ownKnob Ybad.prog.godebug = none := by kernel_rfl
theorem laidOut : laidOutB Ybad.prog = true := by kernel_rfl
theorem cells23 : Ybad.prog.cellsOf 23 = 13 := by kernel_rfl
theorem cells5 : Ybad.prog.cellsOf 5 = 1 := by kernel_rfl
theorem cells4 : Ybad.prog.cellsOf 4 = 1 := by kernel_rfl

theorem u8_nat {x : Int} (h : (Lit.int .u8 x).wf = true) : ∃ n : Nat, x = n ∧ n < 256 := by
  simp [Lit.wf, IntKind.min, IntKind.max, IntKind.signed, IntKind.bits] at h
  exact ⟨x.toNat, by omega, by omega⟩

theorem byte_of {H : Type} {enc : TypeId × Value → H} {W : World} {n : Nat} {v : Value} {x : Option (DataW H × List MemPlace)} (h : DataW.trod enc Ybad.prog W 0 (fun _ => true) true n 5 [v] = x) (hx : x.isSome = true) : ∃ k : Nat, v = .int .u8 k ∧ k < 256 := by
  obtain ⟨y, rfl⟩ := Option.isSome_iff_exists.1 hx
  obtain ⟨z, e, _, wz⟩ := DataW.trod_int Ybad.underlying5 h
  obtain ⟨k, rfl, hk⟩ := u8_nat wz
  simp at e
  exact ⟨k, e, hk⟩
theorem bool_of {H : Type} {enc : TypeId × Value → H} {W : World} {n : Nat} {v : Value} {x : Option (DataW H × List MemPlace)} (h : DataW.trod enc Ybad.prog W 0 (fun _ => true) true n 4 [v] = x) (hx : x.isSome = true) : ∃ b : Bool, v = .bool b := by
  obtain ⟨y, rfl⟩ := Option.isSome_iff_exists.1 hx
  obtain ⟨b, e, _⟩ := DataW.trod_bool Ybad.underlying4 h
  simp at e
  exact ⟨b, e⟩

set_option maxRecDepth 100000 in
theorem open_in {H : Type} {enc : TypeId × Value → H} {W : World} {r : Reach} {base : Nat} {v : Value} {d : DataW H} {p : List MemPlace}
    (hv : Value.okWide Ybad.prog W r base 23 v) (h : DataW.Trod enc Ybad.prog W 0 (fun _ => true) true 23 v d p) :
    ∃ (K Nx Fr IL Ps En NN Mk SE GF : Nat) (hs ti ta : Bool), v = .agg #[.int .u8 K, .int .u8 Nx, .int .u8 Fr, .int .u8 IL, .int .u8 Ps, .int .u8 En, .int .u8 NN, .int .u8 Mk, .int .u8 SE, .int .u8 GF, .bool hs, .bool ti, .bool ta] ∧
      K < 256 ∧ Nx < 256 ∧ Fr < 256 ∧ IL < 256 ∧ Ps < 256 ∧ En < 256 ∧ NN < 256 ∧ Mk < 256 ∧ SE < 256 ∧ GF < 256 := by
  obtain ⟨cs, rfl, hs⟩ := okWide_struct Ybad.underlying23 hv
  rw [cells23] at hs
  obtain ⟨c0, c1, c2, c3, c4, c5, c6, c7, c8, c9, c10, c11, c12, rfl⟩ : ∃ c0 c1 c2 c3 c4 c5 c6 c7 c8 c9 c10 c11 c12, cs = #[c0, c1, c2, c3, c4, c5, c6, c7, c8, c9, c10, c11, c12] := by
    obtain ⟨l⟩ := cs
    match l, hs with
    | [c0, c1, c2, c3, c4, c5, c6, c7, c8, c9, c10, c11, c12], _ => exact ⟨_, _, _, _, _, _, _, _, _, _, _, _, _, rfl⟩
  obtain ⟨fuel, hf⟩ := h
  obtain ⟨xs, n, _, _, _, hxl, hx⟩ := DataW.trod_struct Ybad.underlying23 hf
  have hxs : ∀ i, i < 13 → (xs[i]?).isSome = true := fun i hi => by
    have : xs.length = 13 := hxl
    rw [List.getElem?_eq_getElem (by omega)]; rfl
  have e0 : DataW.trod enc Ybad.prog W 0 (fun _ => true) true n 5 [c0] = xs[0]? := by
    have h : DataW.trod enc Ybad.prog W 0 (fun _ => true) true n 5 (((Value.agg #[c0, c1, c2, c3, c4, c5, c6, c7, c8, c9, c10, c11, c12]).cells.toList.drop 0).take (Ybad.prog.cellsOf 5)) = xs[0]? := hx 0 _ rfl
    rw [cells5] at h
    exact h
  have e1 : DataW.trod enc Ybad.prog W 0 (fun _ => true) true n 5 [c1] = xs[1]? := by
    have h : DataW.trod enc Ybad.prog W 0 (fun _ => true) true n 5 (((Value.agg #[c0, c1, c2, c3, c4, c5, c6, c7, c8, c9, c10, c11, c12]).cells.toList.drop 1).take (Ybad.prog.cellsOf 5)) = xs[1]? := hx 1 _ rfl
    rw [cells5] at h
    exact h
  have e2 : DataW.trod enc Ybad.prog W 0 (fun _ => true) true n 5 [c2] = xs[2]? := by
    have h : DataW.trod enc Ybad.prog W 0 (fun _ => true) true n 5 (((Value.agg #[c0, c1, c2, c3, c4, c5, c6, c7, c8, c9, c10, c11, c12]).cells.toList.drop 2).take (Ybad.prog.cellsOf 5)) = xs[2]? := hx 2 _ rfl
    rw [cells5] at h
    exact h
  have e3 : DataW.trod enc Ybad.prog W 0 (fun _ => true) true n 5 [c3] = xs[3]? := by
    have h : DataW.trod enc Ybad.prog W 0 (fun _ => true) true n 5 (((Value.agg #[c0, c1, c2, c3, c4, c5, c6, c7, c8, c9, c10, c11, c12]).cells.toList.drop 3).take (Ybad.prog.cellsOf 5)) = xs[3]? := hx 3 _ rfl
    rw [cells5] at h
    exact h
  have e4 : DataW.trod enc Ybad.prog W 0 (fun _ => true) true n 5 [c4] = xs[4]? := by
    have h : DataW.trod enc Ybad.prog W 0 (fun _ => true) true n 5 (((Value.agg #[c0, c1, c2, c3, c4, c5, c6, c7, c8, c9, c10, c11, c12]).cells.toList.drop 4).take (Ybad.prog.cellsOf 5)) = xs[4]? := hx 4 _ rfl
    rw [cells5] at h
    exact h
  have e5 : DataW.trod enc Ybad.prog W 0 (fun _ => true) true n 5 [c5] = xs[5]? := by
    have h : DataW.trod enc Ybad.prog W 0 (fun _ => true) true n 5 (((Value.agg #[c0, c1, c2, c3, c4, c5, c6, c7, c8, c9, c10, c11, c12]).cells.toList.drop 5).take (Ybad.prog.cellsOf 5)) = xs[5]? := hx 5 _ rfl
    rw [cells5] at h
    exact h
  have e6 : DataW.trod enc Ybad.prog W 0 (fun _ => true) true n 5 [c6] = xs[6]? := by
    have h : DataW.trod enc Ybad.prog W 0 (fun _ => true) true n 5 (((Value.agg #[c0, c1, c2, c3, c4, c5, c6, c7, c8, c9, c10, c11, c12]).cells.toList.drop 6).take (Ybad.prog.cellsOf 5)) = xs[6]? := hx 6 _ rfl
    rw [cells5] at h
    exact h
  have e7 : DataW.trod enc Ybad.prog W 0 (fun _ => true) true n 5 [c7] = xs[7]? := by
    have h : DataW.trod enc Ybad.prog W 0 (fun _ => true) true n 5 (((Value.agg #[c0, c1, c2, c3, c4, c5, c6, c7, c8, c9, c10, c11, c12]).cells.toList.drop 7).take (Ybad.prog.cellsOf 5)) = xs[7]? := hx 7 _ rfl
    rw [cells5] at h
    exact h
  have e8 : DataW.trod enc Ybad.prog W 0 (fun _ => true) true n 5 [c8] = xs[8]? := by
    have h : DataW.trod enc Ybad.prog W 0 (fun _ => true) true n 5 (((Value.agg #[c0, c1, c2, c3, c4, c5, c6, c7, c8, c9, c10, c11, c12]).cells.toList.drop 8).take (Ybad.prog.cellsOf 5)) = xs[8]? := hx 8 _ rfl
    rw [cells5] at h
    exact h
  have e9 : DataW.trod enc Ybad.prog W 0 (fun _ => true) true n 5 [c9] = xs[9]? := by
    have h : DataW.trod enc Ybad.prog W 0 (fun _ => true) true n 5 (((Value.agg #[c0, c1, c2, c3, c4, c5, c6, c7, c8, c9, c10, c11, c12]).cells.toList.drop 9).take (Ybad.prog.cellsOf 5)) = xs[9]? := hx 9 _ rfl
    rw [cells5] at h
    exact h
  have e10 : DataW.trod enc Ybad.prog W 0 (fun _ => true) true n 4 [c10] = xs[10]? := by
    have h : DataW.trod enc Ybad.prog W 0 (fun _ => true) true n 4 (((Value.agg #[c0, c1, c2, c3, c4, c5, c6, c7, c8, c9, c10, c11, c12]).cells.toList.drop 10).take (Ybad.prog.cellsOf 4)) = xs[10]? := hx 10 _ rfl
    rw [cells4] at h
    exact h
  have e11 : DataW.trod enc Ybad.prog W 0 (fun _ => true) true n 4 [c11] = xs[11]? := by
    have h : DataW.trod enc Ybad.prog W 0 (fun _ => true) true n 4 (((Value.agg #[c0, c1, c2, c3, c4, c5, c6, c7, c8, c9, c10, c11, c12]).cells.toList.drop 11).take (Ybad.prog.cellsOf 4)) = xs[11]? := hx 11 _ rfl
    rw [cells4] at h
    exact h
  have e12 : DataW.trod enc Ybad.prog W 0 (fun _ => true) true n 4 [c12] = xs[12]? := by
    have h : DataW.trod enc Ybad.prog W 0 (fun _ => true) true n 4 (((Value.agg #[c0, c1, c2, c3, c4, c5, c6, c7, c8, c9, c10, c11, c12]).cells.toList.drop 12).take (Ybad.prog.cellsOf 4)) = xs[12]? := hx 12 _ rfl
    rw [cells4] at h
    exact h
  obtain ⟨K, rfl, k0⟩ := byte_of (v := c0) e0 (hxs 0 (by omega))
  obtain ⟨Nx, rfl, k1⟩ := byte_of (v := c1) e1 (hxs 1 (by omega))
  obtain ⟨Fr, rfl, k2⟩ := byte_of (v := c2) e2 (hxs 2 (by omega))
  obtain ⟨IL, rfl, k3⟩ := byte_of (v := c3) e3 (hxs 3 (by omega))
  obtain ⟨Ps, rfl, k4⟩ := byte_of (v := c4) e4 (hxs 4 (by omega))
  obtain ⟨En, rfl, k5⟩ := byte_of (v := c5) e5 (hxs 5 (by omega))
  obtain ⟨NN, rfl, k6⟩ := byte_of (v := c6) e6 (hxs 6 (by omega))
  obtain ⟨Mk, rfl, k7⟩ := byte_of (v := c7) e7 (hxs 7 (by omega))
  obtain ⟨SE, rfl, k8⟩ := byte_of (v := c8) e8 (hxs 8 (by omega))
  obtain ⟨GF, rfl, k9⟩ := byte_of (v := c9) e9 (hxs 9 (by omega))
  obtain ⟨b1, rfl⟩ := bool_of (v := c10) e10 (hxs 10 (by omega))
  obtain ⟨b2, rfl⟩ := bool_of (v := c11) e11 (hxs 11 (by omega))
  obtain ⟨b3, rfl⟩ := bool_of (v := c12) e12 (hxs 12 (by omega))
  exact ⟨K, Nx, Fr, IL, Ps, En, NN, Mk, SE, GF, b1, b2, b3, rfl, k0, k1, k2, k3, k4, k5, k6, k7, k8, k9⟩

theorem open_tooks {H : Type} {enc : TypeId × Value → H} {W : World} {fuel len cap : Nat} {ao : Option Addr} {x : DataW H × List MemPlace}
    (hf : DataW.trod enc Ybad.prog W 0 (fun _ => true) true fuel 24 (Value.slice ao len cap).cells.toList = some x) :
    len ≤ maxLen ∧ ∃ tk : List Bool, tk.length = len ∧ (len = 0 ∨ ∃ tb q0, ao = some ⟨tb, q0, none⟩ ∧ tb < W.heap.size ∧ ∀ j, j < len → W.cell? ⟨tb, q0 + j, none⟩ = some (.bool (tk.getD j false))) := by
  rcases open_bools Ybad.underlying24 Ybad.underlying4 cells4 hf with ⟨hcs, _⟩ | ⟨a, len', cap', B, hcs, _, hl, hm, _, hcell⟩
  · simp [Value.cells] at hcs
    obtain ⟨rfl, rfl, rfl⟩ := hcs
    exact ⟨Nat.zero_le _, [], rfl, .inl rfl⟩
  · simp [Value.cells] at hcs
    obtain ⟨rfl, rfl, rfl⟩ := hcs
    refine ⟨by omega, (List.range len).map B, by simp, ?_⟩
    by_cases h0 : len = 0
    · exact .inl h0
    · obtain ⟨b, off, spot⟩ := a
      have hspot : spot = none := by simpa [Addr.add] using World.cell?_spot (hcell 0 (by omega))
      subst hspot
      refine .inr ⟨b, off, rfl, World.block_lt_of_cell? W _ (hcell 0 (by omega)), fun j hj => ?_⟩
      have := hcell j (by omega)
      rw [Addr.add_lit] at this
      rw [this]
      simp [List.getD_eq_getElem?_getD, hj]
end Go.Proofs.YbulkblmiDoor
