/-
  zzs3111bin: is p among the elements of the slice?
-/
import Derived.Test.YbulkblkeProg
import Derived.WalkKit
import Derived.WalkSpells
import Derived.WalkLawsBesides
namespace Go.Proofs.Ybulkblke
open Go.RowKit

theorem hide {p : Prop} (h : p) : Hid p := h
theorem unhide {p : Prop} (h : Hid p) : p := h
theorem ret_bool {a b : Bool} (h : a = b) : Ending.returned (.bool a) = .returned (.bool b) := by rw [h]

/-- p is among the numbers. -/
def isIn (A : List Int) (p : Int) : Bool := A.any fun a => a == p

/-- The slice's elements lie in memory as the numbers A. -/
def Row32 (w : World) (B : Nat) (ao : Option Addr) (A : List Int) : Prop := ∀ k, k < A.length → ∃ b off, ao = some ⟨b, off, none⟩ ∧ b < B ∧ w.cell? ⟨b, off + k, none⟩ = some (.int .u32 (A.getD k 0))
theorem Row32.below {w w' : World} {B : Nat} {ao : Option Addr} {A : List Int} (h : Row32 w B ao A) (hb : Below B w w') : Row32 w' B ao A := fun k hk => by
  obtain ⟨b, off, h1, h2, h3⟩ := h k hk
  exact ⟨b, off, h1, h2, (hb.cell (p := ⟨b, off + k, none⟩) h2).trans h3⟩

theorem isIn_snoc (A : List Int) (k : Nat) (p : Int) (h : k < A.length) : isIn (A.take (k + 1)) p = (isIn (A.take k) p || (A.getD k 0 == p)) := by
  unfold isIn
  rw [List.take_succ_eq_append_getElem h, List.any_append]
  simp [List.getD, h]

set_option maxHeartbeats 400000 in
theorem in_any (B : Nat) (ao : Option Addr) (cap : Nat) (A : List Int) (p : Int) (w : World) (hm : A.length ≤ maxLen) (hc : Row32 w B ao A) :
    Calls Yba.prog 7 #[.slice ao A.length cap, .int .u32 p] w fun e w' => e = .returned (.bool (isIn A p)) ∧ w' = w := by
  unfold maxLen at hm
  have HC := hide hc
  clear hc
  go_enter Yba.func7, Yba.ntmps7
  go_wp2
  go_loop [5] (fun i => ∃ k : Nat, k ≤ A.length ∧ i = .int .i64 k ∧ Hid (isIn (A.take k) p = false)) (fun i => A.length - (intOf i).toNat)
  case atStart => exact ⟨0, Nat.zero_le _, rfl, hide (by simp [isIn])⟩
  case round =>
    obtain ⟨k, hk, rfl, hin⟩ := hrel
    by_cases hlt : k < A.length
    · obtain ⟨b, off, hao, _, hck⟩ := unhide HC k hlt
      have hs := isIn_snoc A k p hlt
      rw [unhide hin, Bool.false_or] at hs
      obtain ⟨z, hz⟩ : ∃ z, A.getD k 0 = z := ⟨_, rfl⟩
      rw [hz] at hck hs
      have HS := hide hs
      clear hs hz
      subst hao
      cases hzp : (z == p) with
      | true =>
        have hall : isIn A p = true := by
          have h1 : isIn (A.take (k + 1)) p = true := by rw [unhide HS, hzp]
          unfold isIn at h1 ⊢
          rw [List.any_eq_true] at h1 ⊢
          obtain ⟨x, hx, hxp⟩ := h1
          exact ⟨x, List.mem_of_mem_take hx, hxp⟩
        have HA := hide hall
        clear hall
        go_wp2
        go_ret
        exact ⟨ret_bool (unhide HA).symm, rfl⟩
      | false =>
        have HN : Hid (isIn (A.take (k + 1)) p = false) := by rw [unhide HS, hzp]; exact hide rfl
        go_wp2
        go_round
        case rel => exact ⟨k + 1, by omega, by go_num, HN⟩
        case measure => simp [intOf]; omega
    · have hke : k = A.length := by omega
      subst hke
      have HA : Hid (isIn A p = false) := by have := unhide hin; rw [List.take_of_length_le (Nat.le_refl _)] at this; exact this
      go_wp2
      go_ret
      exact ⟨ret_bool (unhide HA).symm, rfl⟩


theorem info23 : (Yba.prog.info? 23).map (fun i => (i.zero, i.size, i.bytes)) = some (some (.int .u32 0), 1, 4) := by kernel_rfl

theorem own_shape {w : World} {base : Nat} {e : TypeId} {size n : Nat} {v : Value} {xs : List Value} (h : w.ownsRow base e size v (n + 1) xs) :
    ∃ g cap, v = .slice (some ⟨g, 0, none⟩) (n + 1) cap ∧ base ≤ g := by
  rcases h.2 with ⟨_, h⟩ | ⟨g, cap, cur, hv, hb, _⟩
  · omega
  · exact ⟨g, cap, hv, hb⟩

set_option maxHeartbeats 400000 in
/-- The test that search is handed: it writes the place down and asks whether it is among those accepted. -/
theorem is_any (lb ab : Nat) (ao : Option Addr) (cap : Nat) (A lg : List Int) (v : Value) (p : Int) (w : World) (hm : A.length ≤ maxLen) (hlg : lg.length ≤ 1000)
    (hv : w.heap[lb]? = some (.cells #[v] 24 (0, 0))) (hown : w.ownsRow (lb + 1) 23 1 v lg.length (lg.map (Value.int .u32))) (hab : ab < lb)
    (hac : w.cell? ⟨ab, 0, none⟩ = some (.slice ao A.length cap)) (hr : Row32 w lb ao A) :
    Calls Yba.prog 6 #[.int .u32 p, .pointer (some ⟨lb, 0, none⟩), .pointer (some ⟨ab, 0, none⟩)] w fun e w' => e = .returned (.bool (isIn A p)) ∧
      ∃ v', w'.heap[lb]? = some (.cells #[v'] 24 (0, 0)) ∧ w'.ownsRow (lb + 1) 23 1 v' (lg.length + 1) ((lg ++ [p]).map (Value.int .u32)) ∧ Below lb w w' ∧ ∀ k o, k < w.heap.size → k ≠ lb → some k ≠ v.ownBlock → w'.cell? ⟨k, o, none⟩ = w.cell? ⟨k, o, none⟩ := by
  obtain ⟨i0, hi, hz0, hz1, hz2⟩ := info_parts info23
  have hlb := lt_of_block hv
  have hcv := cell_of_one hv
  have HR := hide hr
  have HV := hide hv
  have HAC := hide hac
  clear hr hv hac
  go_enter Yba.func6, Yba.ntmps6
  go_wp2_with (at_builtin; refine wpList_append_own _ rfl (.tmp 5) (.tmp 7) 24 rfl (lb + 1) 23 i0 (.int .u32 0) 1 4 Yba.underlying24 hi hz0 hz1 hz2 rfl (by decide) v lg.length _ rfl (hown.alloc _) ⟨w.heap.size, 0, none⟩ 1 1 [.int .u32 p] rfl rfl (cell_one_new _ _ _) ?h1c ?c3 ?c4 ?c5 ?_)
  case h1c => intro u hu; simp at hu; subst hu; rfl
  case c3 => unfold maxLen; omega
  case c4 => omega
  case c5 => simp; omega
  intro v' w1 hown1 hgrow1 _
  obtain ⟨g, cap1, hv1, hg1⟩ := own_shape hown1
  have hob : ∀ k, v.ownBlock = some k → lb + 1 ≤ k := fun k hk => (hown.lt k hk).1
  have hne : some lb ≠ v.ownBlock := fun h => by have := hob lb h.symm; omega
  have hv2 : w1.heap[lb]? = some (.cells #[v] 24 (0, 0)) := by
    rw [hgrow1.block lb (by simp; omega) hne, Below.heap_alloc w _ lb hlb]
    exact unhide HV
  have hb1 : Below lb w w1 := ((Below.refl lb w).alloc (by omega) _).grown hgrow1 (by simp; omega) (fun k hk => by have := hob k hk; omega)
  have hoth : ∀ k o, k < w.heap.size → k ≠ lb → some k ≠ v.ownBlock → w1.cell? ⟨k, o, none⟩ = w.cell? ⟨k, o, none⟩ := fun k o hk _ h2 => by
    apply World.cell?_of_block
    show w1.heap[k]? = w.heap[k]?
    rw [hgrow1.block k (by simp; omega) h2, Below.heap_alloc w _ k hk]
  have HOTH := hide hoth
  clear hoth
  have hf1 := free_of_one hv2
  have hc1 := cell_of_one hv2
  have hac1 : w1.cell? ⟨ab, 0, none⟩ = some (.slice ao A.length cap) := (hb1.cell (p := ⟨ab, 0, none⟩) hab).trans (unhide HAC)
  rw [hv1] at hown1 ⊢
  have hlb1 := lt_of_block hv2
  clear hgrow1 hown HV hcv hob hne
  have hb2 : Below lb w (w1.setCell ⟨lb, 0, none⟩ (.slice (some ⟨g, 0, none⟩) (lg.length + 1) cap1)) := hb1.setCell (Nat.le_refl _) _
  have hown2 := ownsRow_setCell_other hown1 (a := ⟨lb, 0, none⟩) (by simp [Value.ownBlock]; omega) (.slice (some ⟨g, 0, none⟩) (lg.length + 1) cap1)
  have hv3 := one_setCell (u := .slice (some ⟨g, 0, none⟩) (lg.length + 1) cap1) hv2
  have HO := hide hown2
  have HV3 := hide hv3
  clear hown2 hv3
  go_wp2_with fail
  refine (in_any lb ao cap A p _ hm ((unhide HR).below hb2)).mono ?_
  rintro e w' ⟨rfl, rfl⟩
  go_wp2
  go_ret
  exact ⟨rfl, _, unhide HV3, by rw [List.map_append]; exact unhide HO, hb2, fun k o hk h1 h2 => by rw [← unhide HOTH k o hk h1 h2]; exact World.cell?_of_block (a := ⟨k, o, none⟩) (Below.heap_setCell w1 ⟨lb, 0, none⟩ _ k h1)⟩

end Go.Proofs.Ybulkblke
