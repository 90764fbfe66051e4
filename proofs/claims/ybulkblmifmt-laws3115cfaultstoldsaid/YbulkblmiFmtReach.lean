/-
  slices.Clone at integers; reachable.
-/
import Derived.Test.YbulkblmiFmtPlain
import Derived.WalkKit
import Derived.WalkLawsBesides
namespace Go.Proofs.YbulkblmiFmt
open Go.RowKit

def Hid (p : Prop) : Prop := p
theorem hide {p : Prop} (h : p) : Hid p := h
theorem unhide {p : Prop} (h : Hid p) : p := h

theorem info3 : (Ybaf.prog.info? 3).map (fun i => (i.zero, i.size, i.bytes)) = some (some (.int .i64 0), 1, 8) := by kernel_rfl

abbrev ints (l : List Nat) : List Value := l.map (fun (k : Nat) => Value.int .i64 (k : Int))

set_option maxRecDepth 100000 in
/-- A copy of a row of integers. -/
theorem clone_calls (nb n c : Nat) (ys : List Nat) (w : World) (hn : ys.length = n) (hn2 : n ≤ 2048) (hc : ∀ j u, (ints ys)[j]? = some u → w.cell? ⟨nb, j, none⟩ = some u) :
    Calls Ybaf.prog 12 #[.slice (some ⟨nb, 0, none⟩) n c] w fun r w' => ∃ v, r = .returned v ∧ w'.ownsRow w.heap.size 3 1 v n (ints ys) ∧ Below w.heap.size w w' := by
  obtain ⟨i0, hi, hz0, hz1, hz2⟩ := info_parts info3
  have hnil := fun w => Lib.run_eql_slice_nil (P := Ybaf.prog) w 40 3 (some ⟨nb, 0, none⟩) n c 0 0 Ybaf.underlying40
  have HC := hide hc
  clear hc
  go_enter Ybaf.func12, Ybaf.ntmps12
  go_wp2_with (at_builtin; refine wpList_append_own _ rfl (.tmp 5) (.tmp 6) 40 rfl w.heap.size 3 i0 (.int .i64 0) 1 8 Ybaf.underlying40 hi hz0 hz1 hz2 rfl (by decide) _ 0 _ rfl (World.ownsRow_made w #[] 0 (Nat.le_refl _) (by decide) rfl) ⟨nb, 0, none⟩ n c (ints ys) rfl (by simp [hn]) ?hcn ?h1 ?c3 ?c4 ?c5 ?_)
  case hcn =>
    intro j u hu
    rw [Addr.add_lit, Nat.zero_add]
    exact Lib.cell?_alloc_some _ (unhide HC j u hu)
  case h1 =>
    intro u hu
    obtain ⟨k, _, rfl⟩ := List.mem_map.1 hu
    rfl
  case c3 => unfold maxLen; omega
  case c4 => omega
  case c5 => simp
  intro v' w1 hown hgrow _
  go_wp2
  go_ret
  refine ⟨v', rfl, by simpa using hown, ?_⟩
  have h1 : Below w.heap.size w (w.alloc (.cells #[] 3)) := (Below.refl _ w).alloc (Nat.le_refl _) _
  exact h1.grown hgrow (by simp) (by simp [Value.ownBlock])
end Go.Proofs.YbulkblmiFmt
