/-
  zzs3115cbuild: an item's expression.
-/
import Derived.Test.YbulkblmiFmtParadox
namespace Go.Proofs.YbulkblmiFmt
open Go.RowKit

/-- What an item of knd k holds that can be a fault. -/
def lookOf (k t : Nat) (p : Int) : Lk := if k = 2 ∨ k = 3 then some (p, some t) else if k = 4 then some (p, none) else if k = 5 then some (-p, some t) else none

theorem six (k : Nat) : k % 6 = 0 ∨ k % 6 = 1 ∨ k % 6 = 2 ∨ k % 6 = 3 ∨ k % 6 = 4 ∨ k % 6 = 5 := by omega

section
variable {w : World} {b s : Nat} {op pos rule : Int} {subs sub : Value} {lit name : ByteArray} {e : Bool}
theorem EX.new (hb : b = w.heap.size) : EX (w.alloc (.cells (ecells op pos subs sub lit name rule e) 37)) b op pos subs sub rule e := by
  subst hb; exact ⟨lit, name, Blk.new w _ 37⟩
theorem new_leaf (hop : op = 2 ∨ op = 5) (hb : b = w.heap.size) : ItemX (w.alloc (.cells (ecells op pos subs sub lit name rule e) 37)) (w.alloc (.cells (ecells op pos subs sub lit name rule e) 37)).heap.size b none e :=
  ⟨by simp; omega, op, pos, subs, sub, rule, hop, EX.new hb⟩
theorem new_call {t : Nat} (hb : b = w.heap.size) : Leaf (w.alloc (.cells (ecells 5 pos subs sub lit name t e) 37)) b (some t) := ⟨pos, subs, sub, e, EX.new hb⟩
theorem new_lit (hb : b = w.heap.size) : Leaf (w.alloc (.cells (ecells 2 pos subs sub lit name rule e) 37)) b none := ⟨pos, subs, sub, rule, e, EX.new hb⟩
theorem Leaf.alloc {c : Option Nat} (h : Leaf w s c) (hs : s < w.heap.size) (o : Obj) : Leaf (w.alloc o) s c := h.below (B := w.heap.size) ((Below.refl _ w).alloc (Nat.le_refl _) o) hs
theorem new_look {c : Option Nat} (hop : op = 9 ∨ op = 10) (hb : b = w.heap.size) (hs : s < w.heap.size) (hl : Leaf w s c) :
    Look (w.alloc (.cells (ecells op pos subs (.pointer (some ⟨s, 0, none⟩)) lit name rule e) 37)) (w.alloc (.cells (ecells op pos subs (.pointer (some ⟨s, 0, none⟩)) lit name rule e) 37)).heap.size b pos c e :=
  ⟨by simp; omega, op, s, subs, rule, hop, EX.new hb, by simp; omega, hl.alloc hs _⟩
theorem Look.mono {B B' : Nat} {c : Option Nat} (h : Look w B b pos c e) (hB : B ≤ B') : Look w B' b pos c e := by
  obtain ⟨h1, op, s, subs, rule, ho, he, hs, hl⟩ := h
  exact ⟨by omega, op, s, subs, rule, ho, he, by omega, hl⟩
theorem new_opt {c : Option Nat} {q : Int} {e' : Bool} (hb : b = w.heap.size) (hl : Look w w.heap.size s q c e') :
    ItemX (w.alloc (.cells (ecells 6 pos subs (.pointer (some ⟨s, 0, none⟩)) lit name rule e) 37)) (w.alloc (.cells (ecells 6 pos subs (.pointer (some ⟨s, 0, none⟩)) lit name rule e) 37)).heap.size b (some (q, c)) e :=
  .inr ⟨by simp; omega, s, pos, subs, rule, e', EX.new hb, (hl.below ((Below.refl _ w).alloc (Nat.le_refl _) _)).mono (by simp)⟩
end

theorem below_alloc3 {w : World} (a b c d : Obj) : Below w.heap.size w (((w.alloc a).alloc b).alloc c) ∧ Below w.heap.size w ((((w.alloc a).alloc b).alloc c).alloc d) := by
  have h : Below w.heap.size w (((w.alloc a).alloc b).alloc c) := (((Below.refl _ w).alloc (Nat.le_refl _) _).alloc (by simp) _).alloc (by simp; omega) _
  exact ⟨h, h.alloc (by simp; omega) _⟩

set_option maxRecDepth 100000 in
set_option maxHeartbeats 2000000 in
theorem build_calls (knd tgt t p : Nat) (em : Bool) (w : World) (hk : knd < 256) (hp : p ≤ 2000) :
    Calls Ybaf.prog 4 #[.agg #[.int .u8 knd, .int .u8 tgt, .bool em], .int .i64 t, .int .i64 p] w fun r w' => ∃ b, r = .returned (.pointer (some ⟨b, 0, none⟩)) ∧ ItemX w' w'.heap.size b (lookOf (knd % 6) t p) em ∧ Below w.heap.size w w' := by
  rcases six knd with h | h | h | h | h | h
  · have hm : (knd : Int) % 6 = 0 := by omega
    rw [h]
    go_enter Ybaf.func4, Ybaf.ntmps4
    go_wp2
    go_ret
    exact ⟨w.heap.size + 1, rfl, new_leaf (.inl rfl) (by simp), ((Below.refl _ w).alloc (Nat.le_refl _) _).alloc (by simp) _⟩
  · have hm : (knd : Int) % 6 = 1 := by omega
    rw [h]
    go_enter Ybaf.func4, Ybaf.ntmps4
    go_wp2
    go_ret
    exact ⟨w.heap.size + 1, rfl, new_leaf (.inr rfl) (by simp), ((Below.refl _ w).alloc (Nat.le_refl _) _).alloc (by simp) _⟩
  · have hm : (knd : Int) % 6 = 2 := by omega
    rw [h]
    go_enter Ybaf.func4, Ybaf.ntmps4
    go_wp2
    go_ret
    exact ⟨w.heap.size + 1 + 1, rfl, .inl (new_look (.inr rfl) (by simp) (by simp) (new_call (by simp))), (below_alloc3 _ _ _ (.cells #[] 0)).1⟩
  · have hm : (knd : Int) % 6 = 3 := by omega
    rw [h]
    go_enter Ybaf.func4, Ybaf.ntmps4
    go_wp2
    go_ret
    exact ⟨w.heap.size + 1 + 1, rfl, .inl (new_look (.inl rfl) (by simp) (by simp) (new_call (by simp))), (below_alloc3 _ _ _ (.cells #[] 0)).1⟩
  · have hm : (knd : Int) % 6 = 4 := by omega
    rw [h]
    go_enter Ybaf.func4, Ybaf.ntmps4
    go_wp2
    go_ret
    exact ⟨w.heap.size + 1 + 1, rfl, .inl (new_look (.inr rfl) (by simp) (by simp) (new_lit (by simp))), (below_alloc3 _ _ _ (.cells #[] 0)).1⟩
  · have hm : (knd : Int) % 6 = 5 := by omega
    rw [h]
    go_enter Ybaf.func4, Ybaf.ntmps4
    go_wp2
    go_ret
    exact ⟨w.heap.size + 1 + 1 + 1, rfl, new_opt (by simp) (new_look (.inr rfl) (by simp) (by simp) (new_call (by simp))), (below_alloc3 _ _ _ _).2⟩
end Go.Proofs.YbulkblmiFmt
