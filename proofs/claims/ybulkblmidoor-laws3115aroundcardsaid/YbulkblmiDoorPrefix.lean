/-
  zzs3115aprefix, zzs3115anewnode.
-/
import Derived.Test.YbulkblmiDoorNode
import Derived.LaidEqlPtr
import Derived.Deep.Draws
import Derived.Lib.Builder
namespace Go.Proofs.YbulkblmiDoor
open Go.RowKit

theorem info35 : (Ybad.prog.info? 35).isSome = true := by kernel_rfl
theorem info30 : (Ybad.prog.info? 30).isSome = true := by kernel_rfl
theorem neq33 (b : Nat) (w : World) : (binOp .neq 33 (.pointer (some ⟨b, 0, none⟩)) (.pointer (some ⟨b, 0, none⟩))).run Ybad.prog w = .ok (.bool false) w := by
  obtain ⟨j, hj⟩ := Option.isSome_iff_exists.1 info35
  exact Lib.run_neq_ptr_same w ⟨b, 0, none⟩ Ybad.underlying33 hj
theorem eql33 (b : Nat) (w : World) : (binOp .eql 33 (.pointer (some ⟨b, 0, none⟩)) (.pointer (some ⟨b, 0, none⟩))).run Ybad.prog w = .ok (.bool true) w := by
  obtain ⟨j, hj⟩ := Option.isSome_iff_exists.1 info35
  exact run_eql_ptr_same w ⟨b, 0, none⟩ Ybad.underlying33 hj
theorem neq26 (b : Nat) (w : World) : (binOp .neq 26 (.pointer (some ⟨b, 0, none⟩)) (.pointer (some ⟨b, 0, none⟩))).run Ybad.prog w = .ok (.bool false) w := by
  obtain ⟨j, hj⟩ := Option.isSome_iff_exists.1 info30
  exact Lib.run_neq_ptr_same w ⟨b, 0, none⟩ Ybad.underlying26 hj

set_option maxRecDepth 100000 in
set_option maxHeartbeats 2000000 in
/-- Two rows of nodes, the second the first's beginning. -/
theorem pre_calls (a1 a2 n1 c1 n2 c2 o1 o2 : Nat) (ys : List Value) (w : World) (hn1 : n2 ≤ n1) (hn10 : n2 ≤ 10) (hl : ys.length = n2)
    (h1 : ∀ j u, ys[j]? = some u → w.cell? ⟨a1, o1 + j, none⟩ = some u) (h2 : ∀ j u, ys[j]? = some u → w.cell? ⟨a2, o2 + j, none⟩ = some u) (hp : ∀ u ∈ ys, ∃ b : Nat, u = .pointer (some ⟨b, 0, none⟩)) :
    Calls Ybad.prog 6 #[.slice (some ⟨a1, o1, none⟩) n1 c1, .slice (some ⟨a2, o2, none⟩) n2 c2] w fun r w' => r = .returned (.bool true) ∧ ∃ n, w' = w.drewN n := by
  have H1 := hide h1
  have H2 := hide h2
  have HP := hide hp
  clear h1 h2 hp
  go_enter Ybad.func6, Ybad.ntmps6
  go_wp2
  go_loopw [5] (fun v wr => ∃ i d : Nat, i ≤ n2 ∧ v = .int .i64 i ∧ wr = w.drewN d) (fun v _ => n2 - (intOf v).toNat)
  case atStart => exact ⟨0, 0, Nat.zero_le _, rfl, rfl⟩
  case round =>
    obtain ⟨i, d, hi, rfl, rfl⟩ := hrel
    by_cases hlt : i < n2
    · obtain ⟨u, hx⟩ : ∃ x, ys[i]? = some x := ⟨_, List.getElem?_eq_getElem (by omega)⟩
      obtain ⟨p, rfl⟩ := unhide HP u (List.mem_of_getElem? hx)
      have c1 := unhide H1 i _ hx
      have c2 := unhide H2 i _ hx
      have hne := neq33 p
      have hin : i < n1 := by omega
      clear hx
      go_wp2
      go_region
      go_wp2
      go_roundw
      case rel => exact ⟨i + 1, d + 1, by omega, by simp, by simp⟩
      case measure => simp [intOf]; omega
    · go_wp2
      go_ret
      exact ⟨rfl, d, rfl⟩
end Go.Proofs.YbulkblmiDoor
