/-
  LawS3115CFaults at no rules.
-/
import Derived.Test.YbulkblmiFmtLay
namespace Go.Proofs.YbulkblmiFmt
open Go.RowKit Go.Extern.Stop Go.Stop Go.Extern

set_option maxRecDepth 100000 in
set_option maxHeartbeats 4000000 in
theorem law_zero (F : Interp) (ao : Option Addr) (cap : Nat) (w : World) (hF : F.answers w.tape) :
    Calls Ybaf.prog 3 #[.slice ao 0 cap] w fun r w' => r = .returned (.bool true) ∧ Below w.heap.size w w' := by
  obtain ⟨i39, h39, z39a, z39b, z39c⟩ := info_parts info39
  obtain ⟨i40, h40, z40a, z40b, z40c⟩ := info_parts info40
  obtain ⟨i42, h42, z42a, z42b, z42c⟩ := info_parts info42
  have HF := hide hF
  clear hF
  go_enter Ybaf.func3, Ybaf.ntmps3
  go_wp2_with fail
  go_loopw [4, 37] (fun t v wr => t = .int .i64 0 ∧ v = .int .i64 0 ∧ w = wr) (fun _ _ _ => 0)
  case atStart => exact ⟨rfl, rfl, rfl⟩
  case round =>
    obtain ⟨rfl, rfl, rfl⟩ := hrel
    go_wp2_with (at_make; refine wpList_make_full _ rfl _ _ 27 rfl w.heap.size 39 i39 _ 5 Ybaf.underlying27 h39 z39a z39b _ _ _ _ 0 rfl rfl rfl rfl (by omega) (by unfold maxLen; omega) (Nat.le_refl _) ?_)
    intro w2 _ hgr2
    have hB2 : Below w.heap.size w w2 := (Below.refl _ w).grown hgr2 (Nat.le_refl _) (fun k e => by cases e)
    have hs2 := hB2.size
    clear hgr2
    go_wp2_with (at_make; refine wpList_make_full _ rfl _ _ 28 rfl w2.heap.size 40 i40 _ 1 Ybaf.underlying28 h40 z40a z40b _ _ _ _ 0 rfl rfl rfl rfl (by omega) (by unfold maxLen; omega) (Nat.le_refl _) ?_)
    intro w3 hrow3 hgr3
    have hB3 : Below w.heap.size w w3 := hB2.grown hgr3 hs2 (fun k e => by cases e)
    have hs3 := hgr3.size
    have hcb3 : w2.heap.size < w3.heap.size := (row_full hrow3).lt
    clear hrow3 hgr3 hB2
    go_wp2_with fail
    go_loopw [9, 69] (fun t v wr => t = .int .i64 0 ∧ v = .int .i64 0 ∧ w3 = wr) (fun _ _ _ => 0)
    case atStart => exact ⟨rfl, rfl, rfl⟩
    case round =>
      obtain ⟨rfl, rfl, rfl⟩ := hrel
      go_wp2_with (at_make; refine wpList_make_full _ rfl _ _ 41 rfl w3.heap.size 42 i42 _ 1 Ybaf.underlying41 h42 z42a z42b _ _ _ _ 0 rfl rfl rfl rfl (by omega) (by unfold maxLen; omega) (Nat.le_refl _) ?_)
      intro w4 _ hgr4
      have hB4 : Below w.heap.size w w4 := hB3.grown hgr4 (by omega) (fun k e => by cases e)
      have hs4 := hgr4.size
      clear hgr4 hB3
      go_wp2_with fail
      go_loopw [20, 21, 140] (fun v t x wr => v = .slice none 0 0 ∧ t = .int .i64 0 ∧ x = .int .i64 0 ∧ w4 = wr) (fun _ _ _ _ => 0)
      case atStart => exact ⟨rfl, rfl, rfl, rfl⟩
      case round =>
        obtain ⟨rfl, rfl, rfl, rfl⟩ := hrel
        have cP := paradox_calls F w.heap.size w2.heap.size 0 (fun _ _ => false) (fun _ => []) (fun _ => (false, [])) w4 (by rw [hB4.tape]; exact unhide HF) (by omega) (fun u hu => by omega) (fun u hu => by omega) (fun t i ht => by omega) (fun u hu => by omega) (by omega) (fun i hi => by omega) (fun i hi => by omega) (by simp [total])
        have CP := hide cP
        have HB4 := hide hB4
        clear cP hB4
        go_wp2_with fail
        refine (unhide CP).mono ?_
        rintro e w5 ⟨l, v, rfl, hl, hrow, hb5⟩
        obtain rfl : l = [] := by
          cases l with
          | nil => rfl
          | cons a r => simp [allOuts] at hl
        obtain ⟨ao1, cp1, rfl⟩ := row_len hrow
        have HB5 := hide ((unhide HB4).trans (hb5.mono (by omega)))
        clear hl hrow hb5 CP HB4
        simp only [List.length_nil]
        go_wp2_with fail
        go_loopw [223] (fun x wr => x = .int .i64 0 ∧ w5 = wr) (fun _ _ => 0)
        case atStart => exact ⟨rfl, rfl⟩
        case round =>
          obtain ⟨rfl, rfl⟩ := hrel
          go_wp2
          go_ret
          exact ⟨rfl, unhide HB5⟩
end Go.Proofs.YbulkblmiFmt
