/-
  maps.All over map[string]*Held, for every loop body; All; Prepared; NewParticipant; Restore.
-/
import Derived.RangeFuncNested
import Derived.RangeFuncBound
import Derived.RangeFuncCalls
import Derived.RangeFuncLeaves
import Derived.RangeFuncMany
import Derived.Sort.MapsRangeIn
import Derived.Sort.KeysCollected
import Derived.WalkKit
import Derived.OwnWalkIn
import Derived.TacticsInMore
import Derived.RegionIn
import Derived.LoopNIn
import Derived.LoopIn
import Derived.Shelf.Abstract
import Derived.Test.YbulkblgkGreatLocks
namespace Go.Proofs.YbulkblgkGreat
open Go.RowKit Go.Maps Go.Sort Go.Shelf

theorem law9 : Keyed Ybaz.prog 9 := string_keyed Ybaz.underlying9

/-- How a held branch reads: a pointer to the head of a block of S. -/
def heldR (S : Nat → Bool) (v : Value) : Option (DataW Unit × List MemPlace) :=
  match v with
  | .pointer (some ⟨c, 0, none⟩) => if S c then some (.lit (.bool true), []) else none
  | _ => none

theorem heldR_ok {S : Nat → Bool} {c : Nat} (h : S c = true) : heldR S (.pointer (some ⟨c, 0, none⟩)) = some (.lit (.bool true), []) := by
  simp [heldR, h]

theorem heldR_inv {S : Nat → Bool} {v : Value} {y : DataW Unit × List MemPlace} (h : heldR S v = some y) : ∃ c, S c = true ∧ v = .pointer (some ⟨c, 0, none⟩) ∧ y = (.lit (.bool true), []) := by
  unfold heldR at h
  split at h
  · rename_i c
    split at h
    · rename_i hs
      exact ⟨c, hs, rfl, by cases h; rfl⟩
    · cases h
  · cases h

theorem ownsMap_wider {P : Program} {k : TypeId} {w : World} {b n : Nat} {D : DataW Unit} {S S' : Nat → Bool} (hs : ∀ c, S c = true → S' c = true) (h : w.ownsMap P k (heldR S) b n D) : w.ownsMap P k (heldR S') b n D := by
  obtain ⟨es, clock, hb, F, hsz, hD⟩ := h
  obtain ⟨F1, hmap, _⟩ := F.stay (R' := heldR S') (fun x _ z hz => by
    obtain ⟨c, hc, hv, rfl⟩ := heldR_inv hz
    rw [hv]; exact heldR_ok (hs c hc))
  exact ⟨es, clock, hb, F1, hsz, by rw [hmap]; exact hD⟩

/-- What a round is handed: a key, and the block of a held branch. -/
abbrev Pair (S : Nat → Bool) := { p : List UInt8 × Nat // S p.2 = true }
abbrev encs (S : Nat → Bool) (p : Pair S) : Array Value := #[encStr p.1.1, .pointer (some ⟨p.1.2, 0, none⟩)]
abbrev keysOf {S : Nat → Bool} (ps : List (Pair S)) : List (List UInt8) := ps.map (fun p => p.1.1)
/-- All have come: the keys, each once. -/
def AllOf {S : Nat → Bool} (D0 : DataW Unit) (ps : List (Pair S)) : Prop := (keysOf ps).Nodup ∧ ∀ x, x ∈ keysOf ps ↔ has D0 (.string x) = true

set_option maxRecDepth 100000 in
set_option maxHeartbeats 1000000 in
theorem all1S_in (S : Nat → Bool) (F : Fence) (n : Nat) (h39 : F.fn 39) (hro : F.round = none) (hn : 1 ≤ n) (l Bm b nn : Nat) (D0 : DataW Unit) (J Jx : List (Pair S) → World → Prop)
    (hY : ∀ pre x W, J pre W → pre.length < Maps.size D0 → YieldAt F (n - 1) Ybaz.prog l (encs S x) W fun e W' =>
      (e = .returned (.bool true) ∧ J (pre ++ [x]) W' ∧ KeepsWalks W W') ∨ (e = .returned (.bool false) ∧ Jx (pre ++ [x]) W'))
    (W : World) (hJ : AbidesFrom W.heap.size J) (hm : W.cell? ⟨Bm, 0, none⟩ = some (.map (some b))) (hown : W.ownsMap Ybaz.prog 9 (heldR S) b nn D0) (h0 : J [] W) :
    CallsIn F n Ybaz.prog 39 #[.func (.yield l) #[] #[], .pointer (some ⟨Bm, 0, none⟩)] W fun e W' => (∃ v, e = .returned v) ∧
      ((∃ ps, AllOf D0 ps ∧ J ps W') ∨ (∃ pre, True ∧ Jx pre W')) := by
  refine callsIn_of_wp Ybaz.func39 rfl h39 ?_ hro
  simp only [Ybaz.ntmps39, List.size_toArray, List.length_cons, List.length_nil, Nat.reduceAdd, Nat.reduceSub, Array.replicate_succ, Array.replicate_zero, List.push_toArray, List.append_toArray, List.nil_append, List.cons_append]
  gi_wp2_with (first
    | (gi_at_range; refine wpListIn_range_own _ rfl _ 85 rfl 9 67 law9 Ybaz.underlying85 _ b nn _ rfl hown ?_; intro w0 hrg0 hg0 hs0)
    | gi_in)
  go_frame
  gi_loopw [3, 4] (fun _ _ wr => ∃ (left : Lit → Bool) (cnt : Nat) (ps : List (Pair S)), wr.ranges Ybaz.prog 9 (heldR S) b W.heap.size nn D0 left cnt ∧ ps.length + cnt ≤ Maps.size D0 ∧ Collected D0 left (keysOf ps) ∧ J ps wr)
    (fun _ _ wr => wr.rangeLeft b W.heap.size)
  case atStart =>
    exact ⟨_, _, [], hrg0, by simp, Collected.start D0, hJ [] W w0 none h0 hg0 (fun r e => by cases e)⟩
  case round =>
    obtain ⟨left, cnt, ps, hrg, hcs, hC, hJs⟩ := hrel
    gi_wp2_with (first
      | (gi_at_next; refine wpListIn_next_ranges _ rfl _ rfl 9 law9 (heldR S) encStr (fun c : Nat => Value.pointer (some ⟨c, 0, none⟩)) (fun key kl hk => by obtain ⟨x, hx, _⟩ := Maps.keyOf_str Ybaz.underlying9 hk; exact ⟨x, hx⟩) (fun v y hv => by obtain ⟨c, _, rfl, _⟩ := heldR_inv hv; exact ⟨c, rfl⟩) b W.heap.size nn _ _ _ rfl hrg ?_ ?_)
      | gi_in)
    · -- nothing is left
      intro hc0 hl0
      gi_wp2
      go_end0
      exact ⟨⟨_, rfl⟩, .inl ⟨ps, ⟨hC.1, fun x => by rw [hC.2 x, hl0]; simp⟩, hJs⟩⟩
    · -- an entry has come: yield(k, v)
      intro x c kl yd yp w2 cnt2 hkey hlk hv hat hrg2 hlt hg2 hs2 hen
      obtain ⟨x', ex, rfl, _⟩ := Maps.keyOf_str Ybaz.underlying9 hkey
      obtain rfl : x = x' := encStr_inj ex
      obtain ⟨c', hSc, ec, _⟩ := heldR_inv hv
      obtain rfl : c = c' := by simpa using ec
      have hJ2 : J ps w2 := hJ ps wr w2 (some W.heap.size) hJs hg2 (fun r e => by cases e; exact ⟨Nat.le_refl _, hrg.iter_walk⟩)
      obtain ⟨fn, tmps, assign, body, hy, hR⟩ := hY ps ⟨(x, c), hSc⟩ w2 hJ2 (by omega)
      dsimp only [encs] at hy
      clear hs2
      gi_wp2
      refine hR.mono ?_
      have hC2 : Collected D0 (fun z => left z && !z.sameKey (.string x)) (keysOf (ps ++ [⟨(x, c), hSc⟩])) := by simpa [keysOf] using hC.step hlk hat
      rintro e W3 (⟨rfl, hJ3, hk3⟩ | ⟨rfl, hJx3⟩)
      · gi_wp2
        have hrg3 := hrg2.of_walks hk3
        go_roundw
        case rel => exact ⟨_, cnt2, ps ++ [⟨(x, c), hSc⟩], hrg3, by simp; omega, hC2, hJ3⟩
        case measure => rw [hrg3.left_eq, hrg.left_eq]; exact hlt
      · gi_wp2
        refine bodyPost_ret (results_none rfl _ _ _) rfl ?_
        exact ⟨⟨_, rfl⟩, .inr ⟨ps ++ [⟨(x, c), hSc⟩], trivial, hJx3⟩⟩

set_option maxHeartbeats 1000000 in
theorem mapsAll_in (F : Fence) (n : Nat) (hf : F.fn 19) (hro : F.round = none) (mb : Option Nat) (w : World) :
    CallsIn F n Ybaz.prog 19 #[.map mb] w fun e w' => e = .returned (.func (.func 39) #[] #[.pointer (some ⟨w.heap.size, 0, none⟩)]) ∧ w' = w.alloc (.cells #[.map mb] 85) := by
  refine callsIn_of_wp Ybaz.func19 rfl hf ?_ hro
  simp only [Ybaz.ntmps19, List.size_toArray, List.length_cons, List.length_nil, Nat.reduceAdd, Nat.reduceSub, Array.replicate_succ, Array.replicate_zero, List.push_toArray, List.append_toArray, List.nil_append, List.cons_append]
  gi_wp2
  go_ret
  exact ⟨rfl, rfl⟩

theorem all_stops (S : Nat → Bool) (F : Fence) (n : Nat) (h39 : F.fn 39) (hro : F.round = none) (hn : 1 ≤ n) (Bm b nn : Nat) (D0 : DataW Unit) (w : World) (hBm : Bm < w.heap.size)
    (hm : w.cell? ⟨Bm, 0, none⟩ = some (.map (some b))) (hown : w.ownsMap Ybaz.prog 9 (heldR S) b nn D0) :
    SeqStopsA F n Ybaz.prog 39 #[.pointer (some ⟨Bm, 0, none⟩)] (encs S) (AllOf D0) (fun _ => True) (Maps.size D0) w := fun l J Jx W hW hJ _ hY h0 => by
  have hown' : W.ownsMap Ybaz.prog 9 (heldR S) b nn D0 := by
    have hbl := hown.lt
    obtain ⟨es, clock, hb, Ft, hs, hD⟩ := hown
    exact ⟨es, clock, (hW.block b hbl).trans hb, Ft, hs, hD⟩
  exact all1S_in S F n h39 hro hn l Bm b nn D0 J Jx hY W hJ ((hW.cell (p := ⟨Bm, 0, none⟩) hBm).trans hm) hown' h0

/-- (*Participant).All -/
theorem All_in (F : Fence) (n : Nat) (h13 : F.fn 13) (h19 : F.fn 19) (hro : F.round = none) (hn : 1 ≤ n) (bp b : Nat) (w : World) (hc : w.cell? ⟨bp, 1, none⟩ = some (.map (some b))) :
    CallsIn F n Ybaz.prog 13 #[.pointer (some ⟨bp, 0, none⟩)] w fun e w' => e = .returned (.func (.func 39) #[] #[.pointer (some ⟨w.heap.size, 0, none⟩)]) ∧ w' = w.alloc (.cells #[.map (some b)] 85) := by
  refine callsIn_of_wp Ybaz.func13 rfl h13 ?_ hro
  simp only [Ybaz.ntmps13, List.size_toArray, List.length_cons, List.length_nil, Nat.reduceAdd, Nat.reduceSub, Array.replicate_succ, Array.replicate_zero, List.push_toArray, List.append_toArray, List.nil_append, List.cons_append]
  gi_wp2_with (gi_at_call 19; refine (mapsAll_in F (n - 1) h19 hro _ _).mono ?_; rintro e w' ⟨rfl, rfl⟩)
  go_ret
  exact ⟨rfl, rfl⟩

/-- (*Branch).Prepared -/
theorem Prepared_in (F : Fence) (n : Nat) (h14 : F.fn 14) (hro : F.round = none) (c : Nat) (w : World) (hc : w.cell? ⟨c, 0, none⟩ = some (.bool true)) :
    CallsIn F n Ybaz.prog 14 #[.pointer (some ⟨c, 0, none⟩)] w fun e w' => e = .returned (.bool true) ∧ w' = w := by
  refine callsIn_of_wp Ybaz.func14 rfl h14 ?_ hro
  simp only [Ybaz.ntmps14, List.size_toArray, List.length_cons, List.length_nil, Nat.reduceAdd, Nat.reduceSub, Array.replicate_succ, Array.replicate_zero, List.push_toArray, List.append_toArray, List.nil_append, List.cons_append]
  gi_wp2
  go_ret
  exact ⟨rfl, rfl⟩

end Go.Proofs.YbulkblgkGreat
