/-
  zzs3115anewnode.
-/
import Derived.Test.YbulkblmiDoorPrefix
namespace Go.Proofs.YbulkblmiDoor
open Go.RowKit

set_option maxRecDepth 100000 in
set_option maxHeartbeats 4000000 in
theorem newnode_none (g pos ed c : Nat) (inp : ByteArray) (ao : Option Addr) (w : World) (hN : Blk w g #[strR, .int .i64 pos, .int .i64 ed, .string (inp.extract pos ed), .slice none 0 0] 35) (hpe : pos ≤ ed) (hei : ed ≤ inp.size) (hi : inp.size ≤ 40) :
    Calls Ybad.prog 7 #[.pointer (some ⟨g, 0, none⟩), .string inp, .int .i64 pos, .int .i64 ed, .slice ao 0 c] w fun r w' => r = .returned (.bool true) ∧ ∃ n, w' = w.drewN n := by
  have n0 := hN.cell 0 rfl
  have n1 := hN.cell 1 rfl
  have n2 := hN.cell 2 rfl
  have n3 := hN.cell 3 rfl
  have n4 := hN.cell 4 rfl
  have hi2 : inp.size ≤ 40 := hi
  have hnil := fun w => Lib.run_eql_slice_nil (P := Ybad.prog) w 32 33 none 0 0 0 0 Ybad.underlying32
  clear hN
  go_enter Ybad.func7, Ybad.ntmps7
  go_wp2
  go_region
  go_wp2
  go_ret
  exact ⟨rfl, 1, rfl⟩

set_option maxRecDepth 100000 in
set_option maxHeartbeats 4000000 in
theorem newnode_some (g pos ed n c kb kc ob o2 : Nat) (inp : ByteArray) (ys : List Value) (w : World) (hN : Blk w g #[strR, .int .i64 pos, .int .i64 ed, .string (inp.extract pos ed), .slice (some ⟨kb, 0, none⟩) n kc] 35) (hpe : pos ≤ ed) (hei : ed ≤ inp.size) (hi : inp.size ≤ 40)
    (hn0 : 0 < n) (hn : n ≤ 10) (hl : ys.length = n) (h1 : ∀ j u, ys[j]? = some u → w.cell? ⟨kb, 0 + j, none⟩ = some u) (h2 : ∀ j u, ys[j]? = some u → w.cell? ⟨ob, o2 + j, none⟩ = some u) (hp : ∀ u ∈ ys, ∃ b : Nat, u = .pointer (some ⟨b, 0, none⟩)) :
    Calls Ybad.prog 7 #[.pointer (some ⟨g, 0, none⟩), .string inp, .int .i64 pos, .int .i64 ed, .slice (some ⟨ob, o2, none⟩) n c] w fun r w' => r = .returned (.bool true) ∧ ∃ n, w' = w.drewN n := by
  have n0 := hN.cell 0 rfl
  have n1 := hN.cell 1 rfl
  have n2 := hN.cell 2 rfl
  have n3 := hN.cell 3 rfl
  have n4 := hN.cell 4 rfl
  have hi2 : inp.size ≤ 40 := hi
  have HC := hide (pre_calls kb ob n kc n c 0 o2 ys w.drew (Nat.le_refl _) hn hl h1 h2 hp)
  have hnz : ¬ n = 0 := by omega
  clear hN h1 h2 hp
  go_enter Ybad.func7, Ybad.ntmps7
  go_wp2
  go_region
  go_wp2_with fail
  refine (unhide HC).mono ?_
  rintro r w' ⟨rfl, n, rfl⟩
  clear HC
  go_wp2
  go_ret
  exact ⟨rfl, _, rfl⟩
end Go.Proofs.YbulkblmiDoor
