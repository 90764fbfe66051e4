/-
  The expressions as they lie, and the walk at a rule's start.
-/
import Derived.Test.YbulkblmiFmtReachable
import Derived.Deep.Light
namespace Go.Proofs.YbulkblmiFmt
open Go.RowKit

def ecells (op pos : Int) (subs sub : Value) (lit name : ByteArray) (rule : Int) (empty : Bool) : Array Value :=
  #[.int .u8 op, .int .i64 pos, subs, sub, .string lit, .slice none 0 0, .string name, .int .i64 rule, .int .i64 0, .int .i64 0, .bool empty]
/-- An expression in a block of its own. -/
def EX (w : World) (b : Nat) (op pos : Int) (subs sub : Value) (rule : Int) (empty : Bool) : Prop := ∃ lit name, Blk w b (ecells op pos subs sub lit name rule empty) 37

section
variable {w : World} {b : Nat} {op pos : Int} {subs sub : Value} {rule : Int} {empty : Bool}
theorem EX.lt (h : EX w b op pos subs sub rule empty) : b < w.heap.size := by obtain ⟨_, _, h⟩ := h; exact h.lt
theorem EX.c0 (h : EX w b op pos subs sub rule empty) : w.cell? ⟨b, 0, none⟩ = some (.int .u8 op) := by obtain ⟨_, _, h⟩ := h; exact h.cell 0 rfl
theorem EX.c1 (h : EX w b op pos subs sub rule empty) : w.cell? ⟨b, 1, none⟩ = some (.int .i64 pos) := by obtain ⟨_, _, h⟩ := h; exact h.cell 1 rfl
theorem EX.c2 (h : EX w b op pos subs sub rule empty) : w.cell? ⟨b, 2, none⟩ = some subs := by obtain ⟨_, _, h⟩ := h; exact h.cell 2 rfl
theorem EX.c3 (h : EX w b op pos subs sub rule empty) : w.cell? ⟨b, 3, none⟩ = some sub := by obtain ⟨_, _, h⟩ := h; exact h.cell 3 rfl
theorem EX.c7 (h : EX w b op pos subs sub rule empty) : w.cell? ⟨b, 7, none⟩ = some (.int .i64 rule) := by obtain ⟨_, _, h⟩ := h; exact h.cell 7 rfl
theorem EX.c10 (h : EX w b op pos subs sub rule empty) : w.cell? ⟨b, 10, none⟩ = some (.bool empty) := by obtain ⟨_, _, h⟩ := h; exact h.cell 10 rfl
theorem EX.turns (h : EX w b op pos subs sub rule empty) {w' : World} {T : Nat → Prop} (ht : Turns w w' T) (hn : ¬ T b) : EX w' b op pos subs sub rule empty := by obtain ⟨l, m, h⟩ := h; exact ⟨l, m, h.turns ht hn⟩
theorem EX.below (h : EX w b op pos subs sub rule empty) {w' : World} {B : Nat} (hb : Below B w w') (hk : b < B) : EX w' b op pos subs sub rule empty := by obtain ⟨l, m, h⟩ := h; exact ⟨l, m, h.below hb hk⟩
end

theorem enter13 (args : Array Value) (w : World) : (callFunc 13 args).run Ybaf.prog w = .ok (.enter 13 args) w := by kernel_rfl
theorem enter8 (args : Array Value) (w : World) : (callFunc 8 args).run Ybaf.prog w = .ok (.enter 8 args) w := by kernel_rfl
set_option maxRecDepth 100000 in
set_option maxHeartbeats 1000000 in
theorem was_leaf (f b : Nat) (caps : Array Value) (op : Int) (Q : World → Prop) (w : World) (hop : op = 2 ∨ op = 5) (hcall : ∀ args w, (callFunc f args).run Ybaf.prog w = .ok (.enter f args) w) (hQ : ∀ w', Q w' → w'.cell? ⟨b, 0, none⟩ = some (.int .u8 op))
    (hv : Calls Ybaf.prog f (#[.pointer (some ⟨b, 0, none⟩)] ++ caps) w fun r w' => r = .returned (.tuple #[]) ∧ Q w') :
    Calls Ybaf.prog 7 #[.pointer (some ⟨b, 0, none⟩), .func (.func f) #[] caps] w fun r w' => r = .returned (.tuple #[]) ∧ Q w' := by
  go_enter Ybaf.func7, Ybaf.ntmps7
  have HV := hide hv
  clear hv
  go_wp2_with fail
  refine (unhide HV).mono ?_
  rintro e w1 ⟨rfl, hq⟩
  have c0 := hQ w1 hq
  have HQ := hide hq
  clear hQ hq
  rcases hop with rfl | rfl
  · go_wp2
    go_end0
    exact ⟨rfl, unhide HQ⟩
  · go_wp2
    go_end0
    exact ⟨rfl, unhide HQ⟩

set_option maxRecDepth 100000 in
set_option maxHeartbeats 1000000 in
theorem was_sub (f b s : Nat) (caps : Array Value) (op : Int) (Q Q2 : World → Prop) (w : World) (hop : op = 6 ∨ op = 9 ∨ op = 10) (hcall : ∀ args w, (callFunc f args).run Ybaf.prog w = .ok (.enter f args) w)
    (hQ : ∀ w', Q w' → w'.cell? ⟨b, 0, none⟩ = some (.int .u8 op) ∧ w'.cell? ⟨b, 3, none⟩ = some (.pointer (some ⟨s, 0, none⟩)))
    (hv : Calls Ybaf.prog f (#[.pointer (some ⟨b, 0, none⟩)] ++ caps) w fun r w' => r = .returned (.tuple #[]) ∧ Q w')
    (hs : ∀ w', Q w' → Calls Ybaf.prog 7 #[.pointer (some ⟨s, 0, none⟩), .func (.func f) #[] caps] w' fun r w'' => r = .returned (.tuple #[]) ∧ Q2 w'') :
    Calls Ybaf.prog 7 #[.pointer (some ⟨b, 0, none⟩), .func (.func f) #[] caps] w fun r w' => r = .returned (.tuple #[]) ∧ Q2 w' := by
  have HS := hide hs
  clear hs
  go_enter Ybaf.func7, Ybaf.ntmps7
  have HV := hide hv
  clear hv
  go_wp2_with fail
  refine (unhide HV).mono ?_
  rintro e w1 ⟨rfl, hq⟩
  obtain ⟨c0, c3⟩ := hQ w1 hq
  have CS := hide (unhide HS w1 hq)
  clear hQ hq HS
  rcases hop with rfl | rfl | rfl
  all_goals
    go_wp2_with fail
    refine (unhide CS).mono ?_
    rintro e w2 ⟨rfl, hq⟩
    have HQ := hide hq
    clear hq
    go_wp2
    go_end0
    exact ⟨rfl, unhide HQ⟩

set_option maxRecDepth 100000 in
set_option maxHeartbeats 1000000 in
theorem was_choice (f b sb len cap : Nat) (bs : List Nat) (caps : Array Value) (I : Nat → World → Prop) (w : World) (hcall : ∀ args w, (callFunc f args).run Ybaf.prog w = .ok (.enter f args) w) (hlen : bs.length = len) (hle : len ≤ 1024)
    (hI0 : ∀ w', I 0 w' → w'.cell? ⟨b, 0, none⟩ = some (.int .u8 0) ∧ w'.cell? ⟨b, 2, none⟩ = some (.slice (some ⟨sb, 0, none⟩) len cap))
    (hIc : ∀ (j : Nat) x w', bs[j]? = some x → I j w' → w'.cell? ⟨sb, j, none⟩ = some (.pointer (some ⟨x, 0, none⟩)))
    (hv : Calls Ybaf.prog f (#[.pointer (some ⟨b, 0, none⟩)] ++ caps) w fun r w' => r = .returned (.tuple #[]) ∧ I 0 w')
    (hs : ∀ (j : Nat) x w', bs[j]? = some x → I j w' → Calls Ybaf.prog 7 #[.pointer (some ⟨x, 0, none⟩), .func (.func f) #[] caps] w' fun r w'' => r = .returned (.tuple #[]) ∧ I (j + 1) w'') :
    Calls Ybaf.prog 7 #[.pointer (some ⟨b, 0, none⟩), .func (.func f) #[] caps] w fun r w' => r = .returned (.tuple #[]) ∧ I len w' := by
  have HS := hide hs
  have HC := hide hIc
  clear hs hIc
  go_enter Ybaf.func7, Ybaf.ntmps7
  have HV := hide hv
  clear hv
  go_wp2_with fail
  refine (unhide HV).mono ?_
  rintro e w1 ⟨rfl, hq⟩
  obtain ⟨c0, c2⟩ := hI0 w1 hq
  have HQ := hide hq
  clear hI0 hq HV
  go_wp2_with fail
  go_loopw [22] (fun v wr => ∃ j : Nat, j ≤ len ∧ v = .int .i64 j ∧ Hid (I j wr)) (fun v _ => len - (intOf v).toNat)
  case atStart => exact ⟨0, Nat.zero_le _, rfl, HQ⟩
  case round =>
    obtain ⟨j, hj, rfl, HI⟩ := hrel
    by_cases hlt : j < len
    · obtain ⟨x, hx⟩ : ∃ x, bs[j]? = some x := ⟨_, List.getElem?_eq_getElem (by omega)⟩
      have cx := unhide HC j x wr hx (unhide HI)
      have CS := hide (unhide HS j x wr hx (unhide HI))
      go_wp2_with fail
      refine (unhide CS).mono ?_
      rintro e w2 ⟨rfl, hq⟩
      have HQ2 := hide hq
      clear hq CS
      go_wp2
      go_roundw
      case rel => exact ⟨j + 1, hlt, by simp, HQ2⟩
      case measure => go_light; simp [intOf]; omega
    · obtain rfl : j = len := by omega
      go_wp2
      go_end0
      exact ⟨rfl, unhide HI⟩

set_option maxRecDepth 100000 in
set_option maxHeartbeats 1000000 in
theorem was_seq (f b sb len cap : Nat) (bs : List Nat) (em : Nat → Bool) (caps : Array Value) (I : Nat → World → Prop) (w : World) (hcall : ∀ args w, (callFunc f args).run Ybaf.prog w = .ok (.enter f args) w) (hlen : bs.length = len) (hle : len ≤ 1024)
    (hI0 : ∀ w', I 0 w' → w'.cell? ⟨b, 0, none⟩ = some (.int .u8 1) ∧ w'.cell? ⟨b, 2, none⟩ = some (.slice (some ⟨sb, 0, none⟩) len cap))
    (hIc : ∀ (j : Nat) x w', bs[j]? = some x → I j w' → w'.cell? ⟨sb, j, none⟩ = some (.pointer (some ⟨x, 0, none⟩)))
    (hIe : ∀ (j : Nat) x w', bs[j]? = some x → I (j + 1) w' → w'.cell? ⟨x, 10, none⟩ = some (.bool (em j)))
    (hv : Calls Ybaf.prog f (#[.pointer (some ⟨b, 0, none⟩)] ++ caps) w fun r w' => r = .returned (.tuple #[]) ∧ I 0 w')
    (hs : ∀ (j : Nat) x w', bs[j]? = some x → I j w' → Calls Ybaf.prog 7 #[.pointer (some ⟨x, 0, none⟩), .func (.func f) #[] caps] w' fun r w'' => r = .returned (.tuple #[]) ∧ I (j + 1) w'') :
    Calls Ybaf.prog 7 #[.pointer (some ⟨b, 0, none⟩), .func (.func f) #[] caps] w fun r w' => r = .returned (.tuple #[]) ∧ ∃ k, k ≤ len ∧ I k w' ∧ (∀ j, j + 1 < k → em j = true) ∧ (k < len → ∃ j, k = j + 1 ∧ em j = false) := by
  have HS := hide hs
  have HC := hide hIc
  have HE := hide hIe
  clear hs hIc hIe
  go_enter Ybaf.func7, Ybaf.ntmps7
  have HV := hide hv
  clear hv
  go_wp2_with fail
  refine (unhide HV).mono ?_
  rintro e w1 ⟨rfl, hq⟩
  obtain ⟨c0, c2⟩ := hI0 w1 hq
  have HQ := hide hq
  clear hI0 hq HV
  go_wp2_with fail
  go_loopw [37] (fun v wr => ∃ j : Nat, j ≤ len ∧ v = .int .i64 j ∧ Hid (I j wr) ∧ Hid (∀ i, i < j → em i = true)) (fun v _ => len - (intOf v).toNat)
  case atStart => exact ⟨0, Nat.zero_le _, rfl, HQ, hide (fun i hi => absurd hi (Nat.not_lt_zero _))⟩
  case round =>
    obtain ⟨j, hj, rfl, HI, HA⟩ := hrel
    by_cases hlt : j < len
    · obtain ⟨x, hx⟩ : ∃ x, bs[j]? = some x := ⟨_, List.getElem?_eq_getElem (by omega)⟩
      have cx := unhide HC j x wr hx (unhide HI)
      have CS := hide (unhide HS j x wr hx (unhide HI))
      go_wp2_with fail
      refine (unhide CS).mono ?_
      rintro e w2 ⟨rfl, hq⟩
      have ce := unhide HE j x w2 hx hq
      have HQ2 := hide hq
      clear hq CS
      cases hem : em j with
      | true =>
        rw [hem] at ce
        have HM := hide hem
        clear hem
        go_wp2
        go_roundw
        case rel => exact ⟨j + 1, hlt, by simp, HQ2, hide (fun i hi => by
          by_cases h : i = j
          · rw [h]; exact unhide HM
          · exact unhide HA i (by omega))⟩
        case measure => go_light; simp [intOf]; omega
      | false =>
        rw [hem] at ce
        have HM := hide hem
        clear hem
        go_wp2
        go_end0
        exact ⟨rfl, j + 1, hlt, unhide HQ2, fun i hi => unhide HA i (by omega), fun _ => ⟨j, rfl, unhide HM⟩⟩
    · obtain rfl : j = len := by omega
      go_wp2
      go_end0
      exact ⟨rfl, j, Nat.le_refl _, unhide HI, fun i hi => unhide HA i (by omega), fun h => by omega⟩
end Go.Proofs.YbulkblmiFmt
