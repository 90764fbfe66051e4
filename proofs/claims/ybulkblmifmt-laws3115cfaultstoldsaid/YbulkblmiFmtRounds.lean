/-
  zzs3115creach: the rounds end, and the marks are what is reached.
-/
import Derived.Test.YbulkblmiFmtIn
namespace Go.Proofs.YbulkblmiFmt
open Go.RowKit

set_option maxRecDepth 100000 in
set_option maxHeartbeats 4000000 in
theorem reach_calls (ab q n s cap : Nat) (D : Nat → RuleD) (w : World) (hs : s < n) (hn : n ≤ 256) (hIn : RulesAt w ab q n D) (hel : ∀ u, u < n → (D u).edges.length ≤ 1024) (hev : ∀ u, u < n → ∀ v ∈ (D u).edges, v < 256) :
    Calls Ybaf.prog 5 #[.slice (some ⟨ab, q, none⟩) n cap, .int .i64 s] w fun r w' => ∃ m, Marks (graphOf n D) s n m ∧ r = .returned (.slice (some ⟨w.heap.size, 0, none⟩) n n) ∧ Blk w' w.heap.size (bools m) 4 ∧ Below w.heap.size w w' := by
  obtain ⟨i4, hi4, z4a, z4b, z4c⟩ := info_parts info4
  have HIN := hide hIn
  have HEL := hide hel
  have HEV := hide hev
  clear hIn hel hev
  go_enter Ybaf.func5, Ybaf.ntmps5
  go_wp2_with (at_make; refine wpList_make_full _ rfl _ _ 42 rfl w.heap.size 4 i4 (.bool false) 1 Ybaf.underlying42 hi4 z4a z4b _ _ _ _ n rfl rfl rfl rfl (by rw [z4c]; omega) (by unfold maxLen; omega) (Nat.le_refl _) ?_)
  intro w1 hrow1 hgr1
  have hM1 := row_bools hrow1
  have cs1 : w1.cell? ⟨w.heap.size, s, none⟩ = some (.bool false) := hM1.cell s (bools_get (by simp [hs]))
  have zs1 := hM1.frozen s
  have hb1 : Below w.heap.size w w1 := (Below.refl _ w).grown hgr1 (Nat.le_refl _) (fun k e => by cases e)
  have HB1 := hide (hb1.setCell (p := ⟨w.heap.size, s, none⟩) (Nat.le_refl _) (.bool true))
  have HM1 := hide (hM1.set s (.bool true))
  rw [bools_set] at HM1
  clear hrow1 hgr1 hM1 hb1
  go_wp2_with fail
  go_loopw [7] (fun v wr => ∃ (k : Nat) (m : List Bool), v = .int .i64 k ∧ Hid (Rds (graphOf n D) s n m) ∧ Hid (k + 1 ≤ marked m) ∧ Hid (Blk wr w.heap.size (bools m) 4) ∧ Hid (Below w.heap.size w wr)) (fun v _ => n - (intOf v).toNat)
  case atStart =>
    refine ⟨0, _, rfl, Rds.at_start _ hs, ?_, HM1, HB1⟩
    have : marked ((List.replicate n false).set s true) = marked (List.replicate n false) + 1 := marked_set (by simp [hs])
    show 0 + 1 ≤ _
    omega
  case round =>
    obtain ⟨k, m0, rfl, HR, HK, HM, HB⟩ := hrel
    have hkn : k < n := by
      have h1 := marked_le m0
      rw [(unhide HR).len] at h1
      have := unhide HK
      omega
    go_wp2_with fail
    go_loopw [8, 9] (fun c v wr => ∃ (u : Nat) (ch : Bool) (m : List Bool), u ≤ n ∧ v = .int .i64 u ∧ c = .bool ch ∧ Hid (Rds (graphOf n D) s n m) ∧ Hid (Half (graphOf n D) m0 m u 0 ch) ∧ Hid (Blk wr w.heap.size (bools m) 4) ∧ Hid (Below w.heap.size w wr)) (fun _ v _ => n - (intOf v).toNat)
    case atStart => exact ⟨0, false, m0, Nat.zero_le _, rfl, rfl, HR, Half.at_start _ _, HM, HB⟩
    case round =>
      clear HM HB
      obtain ⟨u, ch, m, hu, rfl, rfl, HR1, HH, HM, HB⟩ := hrel
      by_cases hlt : u < n
      · obtain ⟨b, hb⟩ := marks_get (unhide HR1).len hlt
        have cu : wr.cell? ⟨w.heap.size, u, none⟩ = some (.bool b) := (unhide HM).cell u (bools_get hb)
        obtain ⟨io, ic, eo, ec, _, _, c20, _, hea⟩ := unhide HIN u hlt
        have c2 := cell_below (unhide HB) (Nat.le_refl _) c20
        have c2' : wr.cell? ⟨ab, q + u * 3 + 2, none⟩ = some (.slice eo (D u).edges.length ec) := by rw [Nat.mul_comm u 3]; exact c2
        obtain ⟨L, hL⟩ : ∃ L, (D u).edges.length = L := ⟨_, rfl⟩
        have hL2 : L ≤ 1024 := by rw [← hL]; exact unhide HEL u hlt
        rw [hL] at c2'
        have HEA := hide hea
        have HLL := hide hL
        clear hea c2 c20 hL
        cases b with
        | false =>
          have HB0 := hide hb
          clear hb
          go_wp2
          go_roundw
          case rel => exact ⟨u + 1, ch, m, hlt, by simp, rfl, HR1, (unhide HH).passed (unhide HB0), HM, HB⟩
          case measure => go_light; simp [intOf]; omega
        | true =>
          have HB0 := hide hb
          clear hb
          go_wp2_with fail
          go_loopw [8, 41] (fun c v wx => ∃ (j : Nat) (ch : Bool) (m : List Bool), j ≤ L ∧ v = .int .i64 j ∧ c = .bool ch ∧ Hid (m[u]? = some true) ∧ Hid (Rds (graphOf n D) s n m) ∧ Hid (Half (graphOf n D) m0 m u j ch) ∧ Hid (Blk wx w.heap.size (bools m) 4) ∧ Hid (Below w.heap.size w wx)) (fun _ v _ => L - (intOf v).toNat)
          case atStart => exact ⟨0, ch, m, Nat.zero_le _, rfl, rfl, HB0, HR1, HH, HM, HB⟩
          case round =>
            clear HR1 HH HM HB HB0
            obtain ⟨j, ch, m, hj, rfl, rfl, HB0, HR1, HH, HM, HB⟩ := hrel
            by_cases hjl : j < L
            · obtain ⟨v, hv⟩ : ∃ v, (D u).edges[j]? = some v := ⟨_, List.getElem?_eq_getElem (by have := unhide HLL; omega)⟩
              obtain ⟨eb, eq, rfl, hce⟩ : ∃ eb eq, eo = some ⟨eb, eq, none⟩ ∧ ∀ (j : Nat) v, (D u).edges[j]? = some v → w.cell? ⟨eb, eq + j, none⟩ = some (.int .u8 (v : Nat)) := by
                rcases unhide HEA with h | h
                · rw [h] at hv; simp at hv
                · exact h
              have cv : wr.cell? ⟨eb, eq + j, none⟩ = some (.int .u8 (v : Nat)) := cell_below (unhide HB) (Nat.le_refl _) (hce j v hv)
              have hv256 : v < 256 := unhide HEV u hlt v (List.mem_of_getElem? hv)
              have hvn : v % n < n := Nat.mod_lt _ (by omega)
              obtain ⟨x, hx⟩ : ∃ x, v % n = x := ⟨_, rfl⟩
              rw [hx] at hvn
              have hxE : (graphOf n D u)[j]? = some x := by simp [graphOf, hv, hx]
              obtain ⟨b, hb⟩ := marks_get (unhide HR1).len hvn
              have cb : wr.cell? ⟨w.heap.size, x, none⟩ = some (.bool b) := (unhide HM).cell x (bools_get hb)
              have zb := (unhide HM).frozen x
              have hmod : (v : Int) % (n : Int) = (x : Int) := by rw [← hx]; simp
              have HXE := hide hxE
              have HBv := hide hb
              clear hce hxE hb hv
              cases b with
              | true =>
                go_wp2
                go_roundw
                case rel => exact ⟨j + 1, ch, m, hjl, by simp, rfl, HB0, HR1, (unhide HH).seen (unhide HXE) (unhide HBv), HM, HB⟩
                case measure => go_light; simp [intOf]; omega
              | false =>
                have HM2 := hide ((unhide HM).set x (.bool true))
                rw [bools_set] at HM2
                have HB2 := hide ((unhide HB).setCell (p := ⟨w.heap.size, x, none⟩) (Nat.le_refl _) (.bool true))
                go_wp2
                go_roundw
                case rel => exact ⟨j + 1, true, m.set x true, hjl, by simp, rfl, keep_true (unhide HB0), (unhide HR1).mark (unhide HB0) (List.mem_of_getElem? (unhide HXE)) hvn, (unhide HH).set (unhide HBv), HM2, HB2⟩
                case measure => go_light; simp [intOf]; omega
            · obtain rfl : j = L := by go_light; omega
              go_wp2
              go_roundw
              case rel => exact ⟨u + 1, ch, m, hlt, by simp, rfl, HR1, Half.onward (by have := unhide HH; rw [← unhide HLL] at this; simpa [graphOf] using this), HM, HB⟩
              case measure => go_light; simp [intOf]; omega
      · obtain rfl : u = n := by go_light; omega
        cases ch with
        | false =>
          go_wp2
          go_ret
          exact ⟨m, (unhide HH).closed (unhide HR1), rfl, unhide HM, unhide HB⟩
        | true =>
          have hmore := hide (unhide HH).more
          go_wp2
          go_roundw
          case rel => exact ⟨k + 1, m, by simp, HR1, (by have := unhide hmore; have := unhide HK; exact hide (by omega)), HM, HB⟩
          case measure => go_light; simp [intOf]; omega
end Go.Proofs.YbulkblmiFmt
