/-
  leftCalls at a call and at a literal; reachable from nothing.
-/
import Derived.Test.YbulkblmiFmtExpr
import Derived.Deep.RegionLaw
import Derived.Deep.AppendLies
namespace Go.Proofs.YbulkblmiFmt
open Go.RowKit

theorem l13_lit (b cell : Nat) (op pos : Int) (subs sub : Value) (rule : Int) (empty : Bool) (w : World) (he : EX w b op pos subs sub rule empty) (hop : op = 2) :
    Calls Ybaf.prog 13 #[.pointer (some ⟨b, 0, none⟩), .pointer (some ⟨cell, 0, none⟩)] w fun r w' => r = .returned (.tuple #[]) ∧ w' = w := by
  subst hop
  have c0 := he.c0
  clear he
  go_enter Ybaf.func13, Ybaf.ntmps13
  go_wp2
  go_end0
  exact ⟨rfl, rfl⟩

set_option maxRecDepth 100000 in
set_option maxHeartbeats 1000000 in
theorem l13_call (b cell t : Nat) (pos : Int) (subs sub : Value) (empty : Bool) (w : World) (he : EX w b 5 pos subs sub t empty) (hc : Blk w cell #[.slice none 0 0] 40) :
    Calls Ybaf.prog 13 #[.pointer (some ⟨b, 0, none⟩), .pointer (some ⟨cell, 0, none⟩)] w fun r w' => r = .returned (.tuple #[]) ∧
      ∃ g cap, Blk w' cell #[.slice (some ⟨g, 0, none⟩) 1 cap] 40 ∧ w'.cell? ⟨g, 0, none⟩ = some (.int .i64 t) ∧ Turns w w' (fun k => k = cell) := by
  obtain ⟨i3, hi3, z3a, z3b, z3c⟩ := info_parts info3
  have c0 := he.c0
  have c7 := he.c7
  have cc := hc.cell 0 rfl
  have zc := hc.frozen 0
  have hcl := hc.lt
  have HC := hide hc
  clear he hc
  go_enter Ybaf.func13, Ybaf.ntmps13
  go_wp2
  go_region_law (refine step_append_lies _ rfl (.tmp 8) (.tmp 13) 40 rfl w.heap.size 3 i3 (.int .i64 0) 1 8 Ybaf.underlying40 hi3 z3a z3b z3c rfl (by decide) (.slice none 0 0) 0 [] rfl (World.ownsRow_nil _ _ _ _) ⟨w.heap.size, 0, none⟩ 1 1 [.int .i64 t] rfl rfl (cell_one_new _ _ _) (by simp [Value.oneCell']) (by decide) (by unfold maxLen; omega) (by omega) (by simp) _ rfl ?_; intro g cap w1 hown hgrow hat hlt; have hB1 : Blk w1 cell #[.slice none 0 0] 40 := (hgrow.block cell (by simp; omega) (by simp [Value.ownBlock])).trans (Blk.alloc (Blk.drew (unhide HC)) _); have cc1 := hB1.cell 0 rfl; have zc1 := hB1.frozen 0)
  all_goals
    have hT1 : Turns w w1 (fun k => k = cell) := (((Turns.refl w _).drew).alloc _).grown hgrow (fun k e => by simp [Value.ownBlock] at e)
    have hg0 : w1.cell? ⟨g, 0, none⟩ = some (.int .i64 t) := row_cells hown 0 _ rfl
    have hgc : g ≠ cell := by
      rcases hat with h | h
      · simp [Value.ownBlock] at h
      · rw [h]; simp; omega
    have HT1 := hide hT1
    have HG0 := hide hg0
    have HB1 := hide hB1
    clear hT1 hg0 hB1 hown hgrow hat
    go_wp2
    go_end0
    refine ⟨rfl, g, cap, (unhide HB1).set 0 _, ?_, (unhide HT1).setCell (.inl rfl) _⟩
    rw [World.cell?_setCell_other _ _ _ _ (by simp)]
    exact unhide HG0

theorem info40 : (Ybaf.prog.info? 40).map (fun i => (i.zero, i.size, i.bytes)) = some (some (.slice none 0 0), 1, 24) := by kernel_rfl

set_option maxRecDepth 100000 in
set_option maxHeartbeats 1000000 in
/-- leftCalls at a call: that rule. -/
theorem left_call (b t : Nat) (pos : Int) (subs sub : Value) (empty : Bool) (w : World) (he : EX w b 5 pos subs sub t empty) :
    Calls Ybaf.prog 10 #[.pointer (some ⟨b, 0, none⟩)] w fun r w' => ∃ g cap, r = .returned (.slice (some ⟨g, 0, none⟩) 1 cap) ∧ w'.cell? ⟨g, 0, none⟩ = some (.int .i64 t) ∧ Below w.heap.size w w' := by
  have hbl := he.lt
  have hC := Blk.new w #[.slice none 0 0] 40
  have he1 : EX (w.alloc (.cells #[.slice none 0 0] 40)) b 5 pos subs sub t empty := he.turns ((Turns.refl w (fun _ => False)).alloc _) (fun h => h)
  have cl := was_leaf 13 b #[.pointer (some ⟨w.heap.size, 0, none⟩)] 5 (fun w' => ∃ g cap, EX w' b 5 pos subs sub t empty ∧ Blk w' w.heap.size #[.slice (some ⟨g, 0, none⟩) 1 cap] 40 ∧ w'.cell? ⟨g, 0, none⟩ = some (.int .i64 t) ∧ Below w.heap.size w w')
    (w.alloc (.cells #[.slice none 0 0] 40)) (.inr rfl) enter13 (fun w' h => by obtain ⟨_, _, h, _⟩ := h; exact h.c0) ((l13_call b w.heap.size t pos subs sub empty _ he1 hC).mono (by
      rintro r w' ⟨rfl, g, cap, h1, h2, h3⟩
      refine ⟨rfl, g, cap, he1.turns h3 (by omega), h1, h2, ?_⟩
      exact (((Turns.refl w (fun _ => False)).alloc _).trans (h3.mono (fun k _ e => .inr (by omega)))).to_below (Nat.le_refl _) (fun _ h => h.elim)))
  have CL := hide cl
  clear cl he he1 hC
  go_enter Ybaf.func10, Ybaf.ntmps10
  go_wp2_with fail
  refine (unhide CL).mono ?_
  rintro e w1 ⟨rfl, g, cap, _, hB, hg, hb⟩
  have c1 := hB.cell 0 rfl
  have HG := hide hg
  have HB := hide hb
  clear hB hg hb CL
  go_wp2
  go_ret
  exact ⟨g, cap, rfl, unhide HG, unhide HB⟩

set_option maxRecDepth 100000 in
set_option maxHeartbeats 1000000 in
/-- leftCalls at a literal: nothing. -/
theorem left_lit (b : Nat) (pos rule : Int) (subs sub : Value) (empty : Bool) (w : World) (he : EX w b 2 pos subs sub rule empty) :
    Calls Ybaf.prog 10 #[.pointer (some ⟨b, 0, none⟩)] w fun r w' => r = .returned (.slice none 0 0) ∧ Below w.heap.size w w' := by
  have hbl := he.lt
  have hC := Blk.new w #[.slice none 0 0] 40
  have he1 : EX (w.alloc (.cells #[.slice none 0 0] 40)) b 2 pos subs sub rule empty := he.turns ((Turns.refl w (fun _ => False)).alloc _) (fun h => h)
  have cl := was_leaf 13 b #[.pointer (some ⟨w.heap.size, 0, none⟩)] 2 (fun w' => w' = w.alloc (.cells #[.slice none 0 0] 40))
    (w.alloc (.cells #[.slice none 0 0] 40)) (.inl rfl) enter13 (fun w' h => by subst h; exact he1.c0) (l13_lit b w.heap.size 2 pos subs sub rule empty _ he1 rfl)
  have c1 := hC.cell 0 rfl
  have CL := hide cl
  clear cl he he1 hC
  go_enter Ybaf.func10, Ybaf.ntmps10
  go_wp2_with fail
  refine (unhide CL).mono ?_
  rintro e w1 ⟨rfl, rfl⟩
  clear CL
  go_wp2
  go_ret
  exact ⟨rfl, (Below.refl _ w).alloc (Nat.le_refl _) _⟩

set_option maxRecDepth 100000 in
set_option maxHeartbeats 1000000 in
theorem clone_none (w : World) : Calls Ybaf.prog 12 #[.slice none 0 0] w fun r w' => r = .returned (.slice none 0 0) ∧ w' = w := by
  have hnil := fun w => Lib.run_eql_slice_nil (P := Ybaf.prog) w 40 3 none 0 0 0 0 Ybaf.underlying40
  go_enter Ybaf.func12, Ybaf.ntmps12
  go_wp2
  go_ret
  exact ⟨rfl, rfl⟩

set_option maxRecDepth 100000 in
set_option maxHeartbeats 1000000 in
/-- reachable from nothing: no mark. -/
theorem reachable_none (cb n : Nat) (w : World) (hn : n ≤ 256) :
    Calls Ybaf.prog 9 #[.slice (some ⟨cb, 0, none⟩) n n, .slice none 0 0] w fun r w' => r = .returned (.slice (some ⟨w.heap.size, 0, none⟩) n n) ∧ Blk w' w.heap.size (bools (List.replicate n false)) 4 ∧ Below w.heap.size w w' := by
  obtain ⟨i4, hi4, z4a, z4b, z4c⟩ := info_parts info4
  go_enter Ybaf.func9, Ybaf.ntmps9
  go_wp2_with (at_make; refine wpList_make_full _ rfl _ _ 42 rfl w.heap.size 4 i4 (.bool false) 1 Ybaf.underlying42 hi4 z4a z4b _ _ _ _ n rfl rfl rfl rfl (by rw [z4c]; omega) (by unfold maxLen; omega) (Nat.le_refl _) ?_)
  intro w1 hrow1 hgr1
  have hM1 := hide (row_bools hrow1)
  have HB1 : Hid (Below w.heap.size w w1) := hide ((Below.refl _ w).grown hgr1 (Nat.le_refl _) (fun k e => by cases e))
  clear hrow1 hgr1
  go_wp2_with fail
  refine (clone_none w1).mono ?_
  rintro e w2 ⟨rfl, rfl⟩
  go_wp2_with fail
  go_loopw [6] (fun v wr => v = .slice none 0 0 ∧ wr = w2) (fun _ _ => 0)
  case atStart => exact ⟨rfl, rfl⟩
  case round =>
    obtain ⟨rfl, rfl⟩ := hrel
    go_wp2
    go_ret
    exact ⟨rfl, unhide hM1, unhide HB1⟩
end Go.Proofs.YbulkblmiFmt
