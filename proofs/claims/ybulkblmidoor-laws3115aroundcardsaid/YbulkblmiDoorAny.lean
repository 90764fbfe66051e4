/-
  LawS3115ARound: every input.
-/
import Derived.Test.YbulkblmiDoorLawB
import Derived.Test.YbulkblmiDoorLawC
namespace Go.Proofs.YbulkblmiDoor
open Go.RowKit

set_option maxRecDepth 100000 in
theorem law_long (K Nx Fr IL Ps En NN Mk SE GF : Nat) (hs ti ta : Bool) (ao : Option Addr) (len cap : Nat) (w : World) (hlong : 1024 < len) (hm : len ≤ maxLen) :
    Calls Ybad.prog 3 #[.agg (inCells K Nx Fr IL Ps En NN Mk SE GF hs ti ta), .slice ao len cap] w fun r w' => r = .returned (.bool true) ∧ Below w.heap.size w w' := by
  have hm2 : len ≤ maxLen := hm
  have hB1 : Below w.heap.size w (w.alloc (.cells (inCells K Nx Fr IL Ps En NN Mk SE GF hs ti ta) 23)) := (Below.refl _ w).alloc (Nat.le_refl _) _
  have HB := hide hB1
  have hI : (1024 : Int) < len := Int.ofNat_lt.2 hlong
  clear hB1
  go_enter Ybad.func3, Ybad.ntmps3
  go_wp2
  go_ret
  exact ⟨rfl, unhide HB⟩

theorem law_any (K Nx Fr IL Ps En NN Mk SE GF : Nat) (hs ti ta : Bool) (ao : Option Addr) (len cap : Nat) (w : World) (hK : K < 256) (hNx : Nx < 256) (hFr : Fr < 256) (hIL : IL < 256) (hPs : Ps < 256) (hEn : En < 256) (hNN : NN < 256) (hMk : Mk < 256) (hSE : SE < 256) (hGF : GF < 256) (hlen : len ≤ 1024)
    (tk : List Bool) (htl : tk.length = len) (hArg : len = 0 ∨ ∃ tb q0, ao = some ⟨tb, q0, none⟩ ∧ tb < w.heap.size ∧ ∀ j, j < len → w.cell? ⟨tb, q0 + j, none⟩ = some (.bool (tk.getD j false))) :
    Calls Ybad.prog 3 #[.agg (inCells K Nx Fr IL Ps En NN Mk SE GF hs ti ta), .slice ao len cap] w fun r w' => r = .returned (.bool true) ∧ Below w.heap.size w w' := by
  obtain ⟨k, ek⟩ : ∃ k : Nat, (1 : Int) + (K : Int) % 5 = k := ⟨((1 : Int) + (K : Int) % 5).toNat, by omega⟩
  obtain ⟨L, eL⟩ : ∃ k : Nat, (IL : Int) % 40 = k := ⟨((IL : Int) % 40).toNat, by omega⟩
  have nn : ∀ a b : Int, 0 < b → ∃ k : Nat, a % b = k := fun a b hb => ⟨(a % b).toNat, (Int.toNat_of_nonneg (Int.emod_nonneg a (by omega))).symm⟩
  obtain ⟨pos, ep⟩ := nn Ps ((L : Int) + 1) (by omega)
  have hpL : (pos : Int) < (L : Int) + 1 := ep ▸ Int.emod_lt_of_pos (Ps : Int) (show (0 : Int) < (L : Int) + 1 by omega)
  obtain ⟨e0, ee0⟩ := nn En ((L : Int) - pos + 1) (by omega)
  obtain ⟨nN, en⟩ : ∃ k : Nat, (NN : Int) % 6 = k := ⟨((NN : Int) % 6).toNat, by omega⟩
  obtain ⟨mark, em⟩ := nn Mk ((nN : Int) + 1) (by omega)
  obtain ⟨gf, eg⟩ := nn GF ((len : Int) + 1) (by omega)
  obtain ⟨nx, ex⟩ := nn Nx (k : Int) (by omega)
  obtain ⟨fr, ef⟩ := nn Fr ((k : Int) + 1) (by omega)
  have hxk : (nx : Int) < k := ex ▸ Int.emod_lt_of_pos (Nx : Int) (show (0 : Int) < (k : Int) by omega)
  have hfk : (fr : Int) < (k : Int) + 1 := ef ▸ Int.emod_lt_of_pos (Fr : Int) (show (0 : Int) < (k : Int) + 1 by omega)
  have hle : (if ti = true then (fr : Int) else if ta = true then (nx : Int) + 1 else (k : Int)) ≤ k := by
    cases ti <;> cases ta <;> simp <;> omega
  by_cases hA : hs = true ∧ pos + e0 ≤ SE
  · exact law_walkA K Nx Fr IL Ps En NN Mk SE GF hs ti ta ao len cap w hK hNx hFr hIL hPs hEn hNN hMk hSE hGF hlen tk htl hArg k L pos (pos + e0) nN mark gf nx fr ek eL ep (by rw [ee0]; omega) en em eg ex ef hA
  · rcases Int.lt_or_eq_of_le hle with hlt | heq
    · exact law_walkC K Nx Fr IL Ps En NN Mk SE GF hs ti ta ao len cap w hK hNx hFr hIL hPs hEn hNN hMk hSE hGF hlen tk htl hArg k L pos (pos + e0) nN mark gf nx fr ek eL ep (by rw [ee0]; omega) en em eg ex ef hA hlt
    · exact law_walkB K Nx Fr IL Ps En NN Mk SE GF hs ti ta ao len cap w hK hNx hFr hIL hPs hEn hNN hMk hSE hGF hlen tk htl hArg k L pos (pos + e0) nN mark gf nx fr ek eL ep (by rw [ee0]; omega) en em eg ex ef hA heq
end Go.Proofs.YbulkblmiDoor
