/-
  A law on the built-in copy between two rows of the call's own, whatever the element's size (the kit's laws ask one cell an element).
-/
import Derived.Test.YbulkblkeBuild
import Derived.Laws.CopyOwn
namespace Go.Proofs.Ybulkblke
open Go.RowKit

theorem run_copy_rows {P : Program} {w : World} (dT ty elem : TypeId) (size g n cap : Nat) (g2 cap2 : Nat) (b1 b2 : Nat) (xs cs : List Value)
    (hu : P.underlying dT = some (.slice elem)) (hs : (P.info? elem).map (·.size) = some size)
    (hd : w.ownsRow b1 elem size (.slice (some ⟨g, 0, none⟩) n cap) n xs) (hsrc : w.ownsRow b2 elem size (.slice (some ⟨g2, 0, none⟩) n cap2) n cs) (h1 : ∀ v ∈ cs, v.oneCell' = true) :
    ∃ w', (Builtin.copy_ #[dT, dT] ty #[.slice (some ⟨g, 0, none⟩) n cap, .slice (some ⟨g2, 0, none⟩) n cap2]).run P w = .ok (goInt n) w' ∧ w'.ownsRow b1 elem size (.slice (some ⟨g, 0, none⟩) n cap) n cs ∧ w.grownBy w' (some g) := by
  obtain ⟨hl1, h2⟩ := hd
  rcases h2 with ⟨h2, _⟩ | ⟨g', cap', cur, hv, hb, hg, hnc, hcm, hcs, htk⟩
  · cases h2
  simp only [Value.slice.injEq, Option.some.injEq, Addr.mk.injEq, true_and, and_true] at hv
  obtain ⟨rfl, rfl⟩ := hv
  have hcl := hsrc.1
  have hlc : cs.length ≤ cur.size := by rw [hcl, hcs]; exact Nat.mul_le_mul_right _ hnc
  have hl := run_loadCells_list (P := P) w ⟨g2, 0, none⟩ cs (fun j v hj => by
    have hjl := (List.getElem?_eq_some_iff.1 hj).1
    rw [Addr.add_lit, Nat.zero_add, hsrc.cellAt j (by omega)]
    exact hj)
  have hst := run_storeCells_at P g 0 elem cs 0 cur w hg (by simpa using hlc) h1
  simp only [Nat.zero_add, List.take_zero, List.nil_append] at hst
  refine ⟨w.setRow g (cs ++ cur.toList.drop cs.length).toArray, ?_, ⟨hcl, .inr ⟨g, cap, (cs ++ cur.toList.drop cs.length).toArray, rfl, hb, setRow_heap w g cur _ elem _ hg, hnc, hcm, ?_, ?_⟩⟩, ⟨rfl, rfl, rfl, by simp [World.setRow], fun k _ hne => ?_⟩⟩
  · cases hq : P.info? elem with
    | none => simp [hq] at hs
    | some i =>
      have hi : i.size = size := by simpa [hq] using hs
      rw [hcl] at hl
      simp [Builtin.copy_, run_underlying hu, Builtin.lenOf, Builtin.firstCells, sizeOf, typeInfo, hq, hi, hl, hst]
  · simp; omega
  · simp
    rw [List.take_append_of_le_length (by omega), List.take_of_length_le (by omega)]
  · simp only [World.setRow]
    rw [Array.getElem?_modify, if_neg (fun e => hne (by rw [e]))]

theorem wpList_copy_rows {P : Program} {w : World} {ops : Array Oper} {rest : List Oper} {o : Oper} {a : Act} {Q : Exit → Act → World → Prop} (hgd : o.guard = none) (d s : Operand) (dT : TypeId)
    (ho : o.op = .call { callee := .builtin .copy, args := #[d, s], argTypes := #[dT, dT] }) (elem : TypeId) (size : Nat) (hu : P.underlying dT = some (.slice elem)) (hsz : (P.info? elem).map (·.size) = some size)
    (g n cap g2 cap2 b1 b2 : Nat) (xs cs : List Value) (hd : a.eval d = .slice (some ⟨g, 0, none⟩) n cap) (hs : a.eval s = .slice (some ⟨g2, 0, none⟩) n cap2)
    (hod : w.ownsRow b1 elem size (.slice (some ⟨g, 0, none⟩) n cap) n xs) (hos : w.ownsRow b2 elem size (.slice (some ⟨g2, 0, none⟩) n cap2) n cs) (h1 : ∀ v ∈ cs, v.oneCell' = true)
    (h : ∀ w', w'.ownsRow b1 elem size (.slice (some ⟨g, 0, none⟩) n cap) n cs → w.grownBy w' (some g) → wpList P ops Q rest (a.put o.dst (goInt n)) w') : wpList P ops Q (o :: rest) a w := by
  refine wpList_plain hgd fun K hK => ?_
  obtain ⟨w', hrun, r1, r2⟩ := run_copy_rows (P := P) dT o.type elem size g n cap g2 cap2 b1 b2 xs cs hu hsz hod hos h1
  unfold Oper.wp
  simp [execOp, ho, resolve, invoke, builtin, hd, hs, hrun, Result.andThen]
  exact hK _ _ (h w' r1 r2)

end Go.Proofs.Ybulkblke
