/-
  The law's argument, opened.
-/
import Derived.Test.YbulkblmiFmtRows
import Derived.Test.YbulkblmiFmtData
import Derived.ProofKit
import Derived.OpenShut
import Derived.Deep.Grids
namespace Go.Proofs.YbulkblmiFmt
open Go.ChangeShapes Go.WideShapes Go.ChangeAt Go.RowKit Go.Deep

theorem cells26 : Ybaf.prog.cellsOf 26 = 3 := by kernel_rfl
theorem cells31 : Ybaf.prog.cellsOf 31 = 3 := by kernel_rfl
theorem cells23 : Ybaf.prog.cellsOf 23 = 1 := by kernel_rfl
theorem cells24 : Ybaf.prog.cellsOf 24 = 1 := by kernel_rfl
theorem cells5 : Ybaf.prog.cellsOf 5 = 1 := by kernel_rfl
theorem cells4 : Ybaf.prog.cellsOf 4 = 1 := by kernel_rfl

theorem u8_nat {x : Int} (h : (Lit.int .u8 x).wf = true) : ∃ n : Nat, x = n ∧ n < 256 := by
  simp [Lit.wf, IntKind.min, IntKind.max, IntKind.signed, IntKind.bits] at h
  exact ⟨x.toNat, by omega, by omega⟩

section
variable {H : Type} {enc : TypeId × Value → H} {w : World}
theorem byte_of {n : Nat} {v : Value} {y : DataW H × List MemPlace} (h : DataW.trod enc Ybaf.prog w 0 (fun _ => true) true n 5 [v] = some y) : ∃ k : Nat, v = .int .u8 k ∧ k < 256 := by
  obtain ⟨z, e, _, wz⟩ := DataW.trod_int Ybaf.underlying5 h
  obtain ⟨k, rfl, hk⟩ := u8_nat wz
  simp at e
  exact ⟨k, e, hk⟩
theorem bool_of {n : Nat} {v : Value} {y : DataW H × List MemPlace} (h : DataW.trod enc Ybaf.prog w 0 (fun _ => true) true n 4 [v] = some y) : ∃ b : Bool, v = .bool b := by
  obtain ⟨b, e, _⟩ := DataW.trod_bool Ybaf.underlying4 h
  simp at e
  exact ⟨b, e⟩

/-- A slice of structs of three cells, opened. -/
theorem open3 {t e : TypeId} {f0 f1 f2 : Field} {fuel len cap : Nat} {ao : Option Addr} {x : DataW H × List MemPlace} (ht : Ybaf.prog.underlying t = some (.slice e)) (he : Ybaf.prog.underlying e = some (.struct #[f0, f1, f2])) (ce : Ybaf.prog.cellsOf e = 3)
    (o0 : f0.offset = 0) (o1 : f1.offset = 1) (o2 : f2.offset = 2) (c0 : Ybaf.prog.cellsOf f0.type = 1) (c1 : Ybaf.prog.cellsOf f1.type = 1) (c2 : Ybaf.prog.cellsOf f2.type = 1)
    (h : DataW.trod enc Ybaf.prog w 0 (fun _ => true) true fuel t [.slice ao len cap] = some x) :
    len ≤ maxLen ∧ (len = 0 ∨ ∃ b q n, ao = some ⟨b, q, none⟩ ∧ ∀ i, i < len → ∃ v0 v1 v2 y0 y1 y2, w.cell? ⟨b, q + 3 * i, none⟩ = some v0 ∧ w.cell? ⟨b, q + 3 * i + 1, none⟩ = some v1 ∧ w.cell? ⟨b, q + 3 * i + 2, none⟩ = some v2 ∧
      DataW.trod enc Ybaf.prog w 0 (fun _ => true) true n f0.type [v0] = some y0 ∧ DataW.trod enc Ybaf.prog w 0 (fun _ => true) true n f1.type [v1] = some y1 ∧ DataW.trod enc Ybaf.prog w 0 (fun _ => true) true n f2.type [v2] = some y2) := by
  rcases DataW.trod_slice ht h with ⟨hcs, _⟩ | ⟨a, len', cap', elems, rest, n, _, hcs, _, _, hl, hm, hel, hx, _⟩
  · simp at hcs
    obtain ⟨_, rfl, _⟩ := hcs
    exact ⟨Nat.zero_le _, .inl rfl⟩
  simp at hcs
  obtain ⟨rfl, rfl, rfl⟩ := hcs
  refine ⟨by omega, ?_⟩
  by_cases h0 : len = 0
  · exact .inl h0
  have each : ∀ i, i < len → ∃ v0 v1 v2 y0 y1 y2, w.cell? (a.add (i * 3)) = some v0 ∧ w.cell? (a.add (i * 3 + 1)) = some v1 ∧ w.cell? (a.add (i * 3 + 2)) = some v2 ∧
      DataW.trod enc Ybaf.prog w 0 (fun _ => true) true (n - 1) f0.type [v0] = some y0 ∧ DataW.trod enc Ybaf.prog w 0 (fun _ => true) true (n - 1) f1.type [v1] = some y1 ∧ DataW.trod enc Ybaf.prog w 0 (fun _ => true) true (n - 1) f2.type [v2] = some y2 := by
    intro i hi
    have h1 := hx i hi
    rw [ce, List.getElem?_eq_getElem (by omega)] at h1
    obtain ⟨cs', h2, h3⟩ := Option.bind_eq_some_iff.1 h1
    obtain ⟨_, hlen, hcell⟩ := World.cells?_some h2
    obtain ⟨xs, k, hk, _, _, hxl, hf⟩ := DataW.trod_struct he h3
    obtain rfl : k = n - 1 := by omega
    match xs, hxl, cs', hlen with
    | [y0, y1, y2], _, [v0, v1, v2], _ =>
      have g0 := hf 0 f0 rfl
      have g1 := hf 1 f1 rfl
      have g2 := hf 2 f2 rfl
      simp [o0, o1, o2, c0, c1, c2] at g0 g1 g2
      have e0 := hcell 0 (by omega)
      have e1 := hcell 1 (by omega)
      have e2 := hcell 2 (by omega)
      rw [add_add] at e0 e1 e2
      exact ⟨v0, v1, v2, y0, y1, y2, by simpa using e0, by simpa using e1, by simpa using e2, g0, g1, g2⟩
  obtain ⟨b, off, spot⟩ := a
  have hspot : spot = none := by
    obtain ⟨_, _, _, _, _, _, h1, _⟩ := each 0 (by omega)
    simpa [Addr.add] using World.cell?_spot h1
  subst hspot
  refine .inr ⟨b, off, n - 1, rfl, fun i hi => ?_⟩
  obtain ⟨v0, v1, v2, y0, y1, y2, h1, h2, h3, h4⟩ := each i hi
  rw [Addr.add_lit] at h1 h2 h3
  rw [Nat.mul_comm 3 i]
  exact ⟨v0, v1, v2, y0, y1, y2, h1, by rw [Nat.add_assoc]; exact h2, by rw [Nat.add_assoc]; exact h3, h4⟩

theorem open_items {fuel len cap : Nat} {io : Option Addr} {x : DataW H × List MemPlace} (h : DataW.trod enc Ybaf.prog w 0 (fun _ => true) true fuel 23 [.slice io len cap] = some x) :
    ∃ its : List Item, its.length = len ∧ len ≤ maxLen ∧ ItemsAt w io its ∧ (∀ it ∈ its, it.knd < 256) ∧ ∀ it ∈ its, it.tgt < 256 := by
  obtain ⟨hm, h⟩ := open3 Ybaf.underlying23 Ybaf.underlying31 cells31 rfl rfl rfl cells5 cells5 cells4 h
  rcases h with rfl | ⟨b, q, n, rfl, hx⟩
  · exact ⟨[], rfl, hm, .inl rfl, by simp, by simp⟩
  obtain ⟨f, hf⟩ := @choose_lt Item ⟨⟨0, 0, false⟩⟩ len (fun i it => w.cell? ⟨b, q + 3 * i, none⟩ = some (.int .u8 (it.knd : Nat)) ∧ w.cell? ⟨b, q + 3 * i + 1, none⟩ = some (.int .u8 (it.tgt : Nat)) ∧ w.cell? ⟨b, q + 3 * i + 2, none⟩ = some (.bool it.em) ∧ it.knd < 256 ∧ it.tgt < 256) (fun i hi => by
    obtain ⟨v0, v1, v2, y0, y1, y2, h0, h1, h2, t0, t1, t2⟩ := hx i hi
    obtain ⟨k, rfl, hk⟩ := byte_of t0
    obtain ⟨t, rfl, ht⟩ := byte_of t1
    obtain ⟨e, rfl⟩ := bool_of t2
    exact ⟨⟨k, t, e⟩, h0, h1, h2, hk, ht⟩)
  refine ⟨(List.range len).map f, by simp, hm, .inr ⟨b, q, rfl, fun j it hj => ?_⟩, ?_, ?_⟩
  · by_cases hjl : j < len
    · simp [hjl] at hj
      subst hj
      exact ⟨(hf j hjl).1, (hf j hjl).2.1, (hf j hjl).2.2.1⟩
    · rw [List.getElem?_eq_none (by simp; omega)] at hj; cases hj
  · intro it hit
    obtain ⟨j, hj, rfl⟩ := List.mem_map.1 hit
    exact (hf j (by simpa using hj)).2.2.2.1
  · intro it hit
    obtain ⟨j, hj, rfl⟩ := List.mem_map.1 hit
    exact (hf j (by simpa using hj)).2.2.2.2

theorem open_edges {fuel len cap : Nat} {eo : Option Addr} {x : DataW H × List MemPlace} (h : DataW.trod enc Ybaf.prog w 0 (fun _ => true) true fuel 24 [.slice eo len cap] = some x) :
    ∃ es : List Nat, es.length = len ∧ len ≤ maxLen ∧ EdgesAt w eo es ∧ ∀ v ∈ es, v < 256 := by
  rcases DataW.trod_slice Ybaf.underlying24 h with ⟨hcs, _⟩ | ⟨a, len', cap', elems, rest, n, _, hcs, _, _, hl, hm, hel, hx, _⟩
  · simp at hcs
    obtain ⟨_, rfl, _⟩ := hcs
    exact ⟨[], rfl, Nat.zero_le _, .inl rfl, by simp⟩
  simp at hcs
  obtain ⟨rfl, rfl, rfl⟩ := hcs
  have each : ∀ i, i < len → ∃ k : Nat, w.cell? (a.add i) = some (.int .u8 (k : Nat)) ∧ k < 256 := by
    intro i hi
    have h1 := hx i hi
    rw [cells5, List.getElem?_eq_getElem (by omega), Nat.mul_one] at h1
    obtain ⟨cs', h2, h3⟩ := Option.bind_eq_some_iff.1 h1
    obtain ⟨_, hlen, hcell⟩ := World.cells?_some h2
    match cs', hlen with
    | [v0], _ =>
      obtain ⟨k, rfl, hk⟩ := byte_of h3
      have e0 := hcell 0 (by omega)
      rw [add_add] at e0
      exact ⟨k, by simpa using e0, hk⟩
  obtain ⟨f, hf⟩ := @choose_lt Nat ⟨0⟩ len (fun i k => w.cell? (a.add i) = some (.int .u8 (k : Nat)) ∧ k < 256) each
  refine ⟨(List.range len).map f, by simp, by omega, ?_, ?_⟩
  · by_cases h0 : len = 0
    · left; simp [h0]
    · obtain ⟨b, off, spot⟩ := a
      have hspot : spot = none := by simpa [Addr.add] using World.cell?_spot (hf 0 (by omega)).1
      subst hspot
      refine .inr ⟨b, off, rfl, fun j v hj => ?_⟩
      by_cases hjl : j < len
      · simp [hjl] at hj
        subst hj
        have := (hf j hjl).1
        rwa [Addr.add_lit] at this
      · rw [List.getElem?_eq_none (by simp; omega)] at hj; cases hj
  · intro v hv
    obtain ⟨j, hj, rfl⟩ := List.mem_map.1 hv
    exact (hf j (by simpa using hj)).2

theorem slice_of {t e : TypeId} (ht : Ybaf.prog.underlying t = some (.slice e)) {n : Nat} {v : Value} {y : DataW H × List MemPlace} (h : DataW.trod enc Ybaf.prog w 0 (fun _ => true) true n t [v] = some y) : ∃ ao len cap, v = .slice ao len cap := by
  rcases DataW.trod_slice ht h with ⟨hcs, _⟩ | ⟨a, len', cap', _, _, _, _, hcs, _⟩
  · simp at hcs; exact ⟨_, _, _, hcs⟩
  · simp at hcs; exact ⟨_, _, _, hcs⟩

/-- The rules, opened. -/
theorem open_rules {fuel len cap : Nat} {ao : Option Addr} {x : DataW H × List MemPlace} (h : DataW.trod enc Ybaf.prog w 0 (fun _ => true) true fuel 22 [.slice ao len cap] = some x) :
    len ≤ maxLen ∧ (len = 0 ∨ ∃ ab q, ao = some ⟨ab, q, none⟩ ∧ ∃ D : Nat → RuleD, RulesAt w ab q len D ∧ DataOk len D) := by
  obtain ⟨hm, h⟩ := open3 Ybaf.underlying22 Ybaf.underlying26 cells26 rfl rfl rfl cells4 cells23 cells24 h
  refine ⟨hm, ?_⟩
  rcases h with rfl | ⟨b, q, n, rfl, hx⟩
  · exact .inl rfl
  obtain ⟨D, hD⟩ := @choose_lt RuleD ⟨⟨false, [], []⟩⟩ len (fun u r => (∃ io ic eo ec, w.cell? ⟨b, q + 3 * u, none⟩ = some (.bool r.ch) ∧ w.cell? ⟨b, q + 3 * u + 1, none⟩ = some (.slice io r.items.length ic) ∧ w.cell? ⟨b, q + 3 * u + 2, none⟩ = some (.slice eo r.edges.length ec) ∧ ItemsAt w io r.items ∧ EdgesAt w eo r.edges) ∧
      (∀ it ∈ r.items, it.knd < 256) ∧ (∀ it ∈ r.items, it.tgt < 256) ∧ (∀ v ∈ r.edges, v < 256) ∧ r.items.length ≤ maxLen ∧ r.edges.length ≤ maxLen) (fun u hu => by
    obtain ⟨v0, v1, v2, y0, y1, y2, h0, h1, h2, t0, t1, t2⟩ := hx u hu
    obtain ⟨c, rfl⟩ := bool_of t0
    obtain ⟨io, il, ic, rfl⟩ := slice_of Ybaf.underlying23 t1
    obtain ⟨eo, el, ec, rfl⟩ := slice_of Ybaf.underlying24 t2
    obtain ⟨its, rfl, m1, a1, k1, k2⟩ := open_items t1
    obtain ⟨es, rfl, m2, a2, k3⟩ := open_edges t2
    exact ⟨⟨c, its, es⟩, ⟨io, ic, eo, ec, h0, h1, h2, a1, a2⟩, k1, k2, k3, m1, m2⟩)
  exact .inr ⟨b, q, rfl, D, fun u hu => (hD u hu).1, ⟨fun u hu => (hD u hu).2.1, fun u hu => (hD u hu).2.2.1, fun u hu => (hD u hu).2.2.2.1, fun u hu => (hD u hu).2.2.2.2.1, fun u hu => (hD u hu).2.2.2.2.2⟩⟩
end
end Go.Proofs.YbulkblmiFmt
