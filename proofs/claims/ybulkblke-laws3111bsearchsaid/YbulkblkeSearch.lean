/-
  index.search, by its contract: a linear probe.
-/
import Derived.Test.YbulkblkePlain
import Derived.Laws.BitsAllLaws
import Derived.Deep.LoopGhost
import Derived.BigQuiet
namespace Go.Proofs.Ybulkblke
open Go.RowKit

/-- The slots lie in the row of block g, two cells each. -/
def SlotRow (w : World) (B g : Nat) (S : List (Int × Int)) : Prop := g < B ∧ ∀ i, i < S.length → w.cell? ⟨g, i * 2, none⟩ = some (.int .u32 (S.getD i (0, 0)).1) ∧ w.cell? ⟨g, i * 2 + 1, none⟩ = some (.int .u32 (S.getD i (0, 0)).2)
theorem SlotRow.below {w w' : World} {B g : Nat} {S : List (Int × Int)} (h : SlotRow w B g S) (hb : Below B w w') : SlotRow w' B g S :=
  ⟨h.1, fun i hi => ⟨(hb.cell (p := ⟨g, i * 2, none⟩) h.1).trans (h.2 i hi).1, (hb.cell (p := ⟨g, i * 2 + 1, none⟩) h.1).trans (h.2 i hi).2⟩⟩

theorem and_mask (x : Int) (j : Nat) (h0 : 0 ≤ x) (h1 : x < 4294967296) (hj : j ≤ 8) : bits .and .u32 x ((2 ^ j - 1 : Nat) : Int) = x % (2 ^ j : Nat) := by
  have hp : 2 ^ j ≤ 2 ^ 8 := Nat.pow_le_pow_right (by decide) hj
  have hp1 : 1 ≤ 2 ^ j := Nat.one_le_two_pow
  rw [u32_and x _ h0 h1 (by omega) (by omega), Int.toNat_natCast, Nat.and_two_pow_sub_one_eq_mod]
  obtain ⟨m, rfl⟩ := Int.eq_ofNat_of_zero_le h0
  rw [Int.toNat_natCast, Int.natCast_emod]

set_option maxHeartbeats 1000000 in
theorem search_any (xb g lb ab j n : Nat) (ao : Option Addr) (cap : Nat) (S : List (Int × Int)) (A : List Int) (tag : Int) (w : World)
    (hj : j ≤ 8) (hn : n = 2 ^ j) (hS : S.length = n) (ht0 : 0 ≤ tag) (ht1 : tag < 4294967296) (hm : A.length ≤ maxLen)
    (hfree : ∃ i, i < n ∧ (S.getD i (0, 0)).2 = 0)
    (hx : xb < lb) (hx0 : w.cell? ⟨xb, 0, none⟩ = some (.slice (some ⟨g, 0, none⟩) n n)) (hsl : SlotRow w lb g S)
    (hv : w.heap[lb]? = some (.cells #[.slice none 0 0] 24 (0, 0))) (hab : ab < lb)
    (hac : w.cell? ⟨ab, 0, none⟩ = some (.slice ao A.length cap)) (hr : Row32 w lb ao A) :
    Calls Yba.prog 8 #[.pointer (some ⟨xb, 0, none⟩), .int .u32 tag, .func (.func 6) #[] #[.pointer (some ⟨lb, 0, none⟩), .pointer (some ⟨ab, 0, none⟩)]] w fun e w' =>
      e = .returned (.tuple #[.int .u32 ((probe S n tag A n (tag.toNat % n)).1 : Int), .int .u32 (probe S n tag A n (tag.toNat % n)).2.1]) ∧
      ∃ v', w'.heap[lb]? = some (.cells #[v'] 24 (0, 0)) ∧ w'.ownsRow (lb + 1) 23 1 v' (probe S n tag A n (tag.toNat % n)).2.2.length ((probe S n tag A n (tag.toNat % n)).2.2.map (Value.int .u32)) ∧ Below lb w w' := by
  have hn256 : n ≤ 256 := by rw [hn]; exact Nat.pow_le_pow_right (by decide) hj
  have hn1 : 1 ≤ n := by rw [hn]; exact Nat.one_le_two_pow
  have hL := Left.start (tag := tag) (A := A) (s := tag.toNat % n) (Nat.mod_lt _ (by omega)) hfree
  obtain ⟨R, hR⟩ : ∃ R, probe S n tag A n (tag.toNat % n) = R := ⟨_, rfl⟩
  rw [hR] at hL ⊢
  have ea : ∀ x : Int, 0 ≤ x → x < 4294967296 → bits .and .u32 x ((n : Int) - 1) = x % (n : Int) := fun x h0 h1 => by
    have := and_mask x j h0 h1 hj
    rw [← hn] at this
    rw [← this]
    congr 1
    omega
  have hand := ea tag ht0 ht1
  have EA := hide ea
  have HL := hide hL
  have HR := hide hr
  have HAC := hide hac
  have HV := hide hv
  have HSL := hide hsl
  have HX0 := hide hx0
  clear hL hR hn ea hr hac hv hsl hfree
  have hn0 : ((n : Int) == 0) = false := beq_eq_false_iff_ne.2 (by omega)
  go_enter Yba.func8, Yba.ntmps8
  go_wp2
  go_loopg [9] n (fun gf t wx => ∃ (s : Nat) (lg : List Int) (v : Value), t = .int .u32 s ∧ Hid (Left S n tag A R gf s lg) ∧ wx.heap[lb]? = some (.cells #[v] 24 (0, 0)) ∧ wx.ownsRow (lb + 1) 23 1 v lg.length (lg.map (Value.int .u32)) ∧ Below lb w wx ∧ lg.length + gf ≤ n)
  case atStart => exact ⟨tag.toNat % n, [], _, by rw [Int.natCast_emod, Int.toNat_of_nonneg ht0], HL, unhide HV, World.ownsRow_nil _ _ _ _, Below.refl _ _, by simp⟩
  case round =>
    obtain ⟨s, lg, v, rfl, hl, hv, hown, hb, hlg⟩ := hrel
    obtain ⟨g', rfl⟩ := (unhide hl).pos
    have hsn := (unhide hl).lt
    have hx1 : wr.cell? ⟨xb, 0, none⟩ = some (.slice (some ⟨g, 0, none⟩) n n) := (hb.cell (p := ⟨xb, 0, none⟩) hx).trans (unhide HX0)
    obtain ⟨hc0, hc1⟩ := ((unhide HSL).below hb).2 s (by omega)
    have hlb := lt_of_block hv
    have hglb := (unhide HSL).1
    obtain ⟨st, hst⟩ : ∃ st, S.getD s (0, 0) = st := ⟨_, rfl⟩
    obtain ⟨t1, p1⟩ := st
    rw [hst] at hc0 hc1
    simp only at hc0 hc1
    have hand1 := unhide EA ((s : Int) + 1) (by omega) (by omega)
    by_cases h0 : p1 = 0
    · subst h0
      have hRR := (unhide hl).atFree (by rw [hst])
      have HRR := hide hRR
      clear hRR hst
      go_wp2
      go_ret2
      have e := unhide HRR
      refine ⟨by rw [e]; rfl, v, ?_, ?_, ?_⟩
      · rw [Below.heap_alloc wr _ lb hlb]; exact hv
      · rw [e]; exact hown.alloc _
      · exact hb.alloc (by omega) _
    · have hz0 : (p1 == 0) = false := beq_eq_false_iff_ne.2 h0
      by_cases h1 : t1 = tag
      · subst h1
        have hown2 := hown.alloc (.cells #[.int .u32 t1, .int .u32 p1] 28)
        have hv2 : (wr.alloc (.cells #[.int .u32 t1, .int .u32 p1] 28)).heap[lb]? = some (.cells #[v] 24 (0, 0)) := by rw [Below.heap_alloc wr _ lb hlb]; exact hv
        have hb2 : Below lb w (wr.alloc (.cells #[.int .u32 t1, .int .u32 p1] 28)) := hb.alloc (by omega) _
        have cI := is_any lb ab ao cap A lg v p1 (wr.alloc (.cells #[.int .u32 t1, .int .u32 p1] 28)) hm (by omega) hv2 hown2 hab ((hb2.cell (p := ⟨ab, 0, none⟩) hab).trans (unhide HAC)) ((unhide HR).below hb2)
        cases hin : isIn A p1 with
        | true =>
          have hRR := (unhide hl).atHit (by rw [hst]; exact h0) (by rw [hst]) (by rw [hst]; exact hin)
          rw [hst] at hRR
          rw [hin] at cI
          have HRR := hide hRR
          have HCI := hide cI
          clear hRR hst cI hown2 hv2 hin
          go_wp2_with fail
          refine (unhide HCI).mono ?_
          rintro e w2 ⟨rfl, v2, hv3, hown3, hb3, hoth⟩
          have hc4 : w2.cell? ⟨wr.heap.size, 1, none⟩ = some (.int .u32 p1) := by
            rw [hoth wr.heap.size 1 (by simp) (by omega) (fun h => by have := (hown.lt _ h.symm).2; omega)]
            simp
          clear HCI hoth
          go_wp2
          go_quiet (fail)
          go_wp2
          go_ret2
          have e := unhide HRR
          have hown4 : w2.ownsRow (lb + 1) 23 1 v2 (lg ++ [p1]).length ((lg ++ [p1]).map (Value.int .u32)) := by simpa using hown3
          exact ⟨by rw [e]; rfl, v2, hv3, by rw [e]; exact hown4, below_drewN (hb2.trans hb3) nq⟩
        | false =>
          have hL2 := (unhide hl).atMiss (by rw [hst]; exact h0) (by rw [hst]) (by rw [hst]; exact hin)
          rw [hst] at hL2
          rw [hin] at cI
          have HL2 := hide hL2
          have HCI := hide cI
          clear hL2 hst cI hown2 hv2 hin
          go_wp2_with fail
          refine (unhide HCI).mono ?_
          rintro e w2 ⟨rfl, v2, hv3, hown3, hb3, hoth⟩
          clear HCI hoth
          go_wp2
          go_roundg g'
          case measure => omega
          case rel => exact ⟨(s + 1) % n, lg ++ [p1], v2, by rw [Int.natCast_emod]; rfl, HL2, hv3, by simpa using hown3, hb2.trans hb3, by simp; omega⟩
      · have hz1 : (t1 == tag) = false := beq_eq_false_iff_ne.2 h1
        have hL2 := (unhide hl).atOther (by rw [hst]; exact h0) (by rw [hst]; exact h1)
        have HL2 := hide hL2
        clear hL2 hst
        go_wp2
        go_roundg g'
        case measure => omega
        case rel => exact ⟨(s + 1) % n, lg, v, by rw [Int.natCast_emod]; rfl, HL2, by rw [Below.heap_alloc wr _ lb hlb]; exact hv, hown.alloc _, hb.alloc (by omega) _, by omega⟩

end Go.Proofs.Ybulkblke
