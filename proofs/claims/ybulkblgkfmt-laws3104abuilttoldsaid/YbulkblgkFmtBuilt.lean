/-
  THE WALK OF LawS3104ABuilt.
-/
import Derived.Test.YbulkblgkFmtValid
import Derived.Laws.IdiomStrings
namespace Go.Proofs.YbulkblgkFmt
open Go.RowKit Go.Extern.Stop Go.Stop Go.Extern

theorem info5 : (Ybaf.prog.info? 5).map (fun i => (i.zero, i.size, i.bytes)) = some (some (.int .u8 0), 1, 1) := by kernel_rfl

def tabL : List UInt8 := [97, 98, 99, 100, 101, 102, 103, 104, 105, 106, 107, 108, 109, 110, 111, 112, 113, 114, 115, 116, 117, 118, 119, 120, 121, 122, 65, 66, 67, 68, 69, 70, 71, 72, 73, 74, 75, 76, 77, 78, 79, 80, 81, 82, 83, 84, 85, 86, 87, 88, 89, 90, 48, 49, 50, 51, 52, 53, 54, 55, 56, 57, 46, 45, 95]
def tabAt (z : Int) : UInt8 := tabL.getD (z.toNat % 65) 0
def byteV (b : UInt8) : Value := .int .u8 (b.toNat : Int)
def row (zs : List Int) (k : Nat) : List Value := (zs.take k).map fun z => byteV (tabAt z)

theorem get_of_list (l : List UInt8) (i : Nat) (h : i < (⟨l.toArray⟩ : ByteArray).size) : (⟨l.toArray⟩ : ByteArray)[i] = l.getD i 0 := by
  have h' : i < l.length := by simpa [ByteArray.size] using h
  simp [List.getD, h']
  rfl
def badL : List UInt8 := [0, 32, 47, 58, 64, 126, 127, 195, 255, 44, 43]
def badAt (z : Int) : UInt8 := badL.getD (z % 11).toNat 0
theorem tab_ok (z : Int) : okB ((tabAt z).toNat : Int) = true := by
  unfold tabAt
  have h : ∀ i : Fin 65, okB ((tabL.getD i.val 0).toNat : Int) = true := by decide
  exact h ⟨z.toNat % 65, by omega⟩
theorem bad_no (z : Int) : okB ((badAt z).toNat : Int) = false := by
  unfold badAt
  have h : ∀ i : Fin 11, okB ((badL.getD i.val 0).toNat : Int) = false := by decide
  exact h ⟨(z % 11).toNat, by omega⟩
theorem tab_all (zs : List Int) : allOk (zs.map tabAt) = true := by
  unfold allOk
  simp [tab_ok]
theorem own_cells {w : World} {base : Nat} {e : TypeId} {g n cap : Nat} {L : List UInt8} (h : w.ownsRow base e 1 (.slice (some ⟨g, 0, none⟩) n cap) n (L.map byteV)) :
    ∀ (j : Nat) (hj : j < L.length), w.cell? ⟨g, j, none⟩ = some (.int .u8 (L[j].toNat : Int)) := by
  intro j hj
  have hl := h.1
  rw [List.length_map] at hl
  rw [h.cellAt j (by omega)]
  simp [hj, byteV]
theorem bytes_oneCell (L : List UInt8) : ∀ u ∈ L.map byteV, u.oneCell' = true := by
  intro u hu
  obtain ⟨_, _, rfl⟩ := List.mem_map.1 hu
  rfl
theorem run_conv {w : World} {base : Nat} {e : TypeId} {g cap : Nat} {L : List UInt8} {n : Nat} (hn : L.length = n) (h : w.ownsRow base e 1 (.slice (some ⟨g, 0, none⟩) n cap) n (L.map byteV)) :
    (convert 27 9 (.slice (some ⟨g, 0, none⟩) n cap)).run Ybaf.prog w = .ok (.string ⟨L.toArray⟩) w := by
  subst hn
  exact run_convert_bytes_back w 27 9 5 ⟨g, 0, none⟩ cap L Ybaf.underlying27 Ybaf.underlying5 Ybaf.underlying9 (fun j hj => by rw [Addr.add_lit, Nat.zero_add]; exact own_cells h j hj)
theorem allOk_plant (L : List UInt8) (p : Nat) (b : UInt8) (hb : okB (b.toNat : Int) = false) : allOk (L.take p ++ b :: L.drop p) = false := by
  unfold allOk
  simp [hb]
theorem good_no {L : List UInt8} (h : allOk L = false) : good ⟨L.toArray⟩ = false := by
  unfold good
  simp [h]
theorem good_all {L : List UInt8} (h : allOk L = true) : good ⟨L.toArray⟩ = (decide (1 ≤ L.length) && decide (L.length ≤ 64)) := by
  unfold good
  simp [h, ByteArray.size]
theorem size_arr (L : List UInt8) : (⟨L.toArray⟩ : ByteArray).size = L.length := by simp [ByteArray.size]
theorem row_succ (zs : List Int) (k : Nat) (h : k < zs.length) : row zs (k + 1) = row zs k ++ [byteV (tabAt (zs.getD k 0))] := by
  unfold row
  rw [List.take_succ_eq_append_getElem h, List.map_append]
  simp [List.getD, h]

set_option maxHeartbeats 1000000 in
theorem built_any (F : Interp) (ao : Option Addr) (len cap : Nat) (zs : List Int) (pl : Bool) (bad at' : Int) (w : World) (hF : F.answers w.tape) (hz : zs.length = len) (hle : len ≤ 1024) (hlc : len ≤ cap)
    (hwz : ∀ k, 0 ≤ zs.getD k 0 ∧ zs.getD k 0 ≤ 255) (hat0 : 0 ≤ at') (hat1 : at' ≤ 255) (hbad0 : 0 ≤ bad) (hbad1 : bad ≤ 255)
    (hc : ∀ k, k < len → ∃ b off, ao = some ⟨b, off, none⟩ ∧ b < w.heap.size ∧ w.cell? ⟨b, off + k, none⟩ = some (.int .u8 (zs.getD k 0))) :
    Calls Ybaf.prog 4 #[.slice ao len cap, .bool pl, .int .u8 bad, .int .u8 at'] w fun e w' => e = .returned (.bool true) ∧ Below w.heap.size w w' := by
  obtain ⟨i0, hi, hz0, hz1, hz2⟩ := info_parts info5
  have HF := hide hF
  clear hF
  go_enter Ybaf.func4, Ybaf.ntmps4
  go_wp2_with (at_make; refine wpList_make_own _ rfl _ _ 27 rfl w.heap.size 5 i0 (.int .u8 0) 1 Ybaf.underlying27 hi hz0 hz1 _ _ _ (len + 1) rfl rfl (by omega) (by rw [hz2]; omega) (by unfold maxLen; omega) (Nat.le_refl _) ?_)
  intro w1 hown hgrow
  go_wp2
  go_loopw [9, 10] (fun v i wr => ∃ k : Nat, k ≤ len ∧ i = .int .i64 k ∧ v = .slice (some ⟨w.heap.size, 0, none⟩) k (len + 1) ∧ wr.ownsRow w.heap.size 5 1 (.slice (some ⟨w.heap.size, 0, none⟩) k (len + 1)) k (row zs k) ∧ Below w.heap.size w wr)
    (fun _ i _ => len - (intOf i).toNat)
  case atStart => exact ⟨0, Nat.zero_le _, rfl, rfl, hown, (Below.refl _ _).grown hgrow (Nat.le_refl _) (by simp)⟩
  case round =>
    obtain ⟨k, hk, rfl, rfl, hown, hb⟩ := hrel
    by_cases hlt : k < len
    · obtain ⟨b, off, rfl, hbB, hck0⟩ := hc k hlt
      have hck : wr.cell? ⟨b, off + k, none⟩ = some (.int .u8 (zs.getD k 0)) := (hb.cell (p := ⟨b, off + k, none⟩) hbB).trans hck0
      clear hck0 hc
      obtain ⟨z, hzk⟩ : ∃ z, zs.getD k 0 = z := ⟨_, rfl⟩
      have hz3 := hwz k
      rw [hzk] at hck hz3
      obtain ⟨hz4, hz5⟩ := hz3
      go_wp2_with (at_builtin; refine wpList_append_fits _ rfl (.tmp 29) (.tmp 37) 27 rfl w.heap.size 5 i0 1 Ybaf.underlying27 hi hz1 w.heap.size k (len + 1) (row zs k) rfl (hown.alloc _) ⟨wr.heap.size, 0, none⟩ 1 1 [_] rfl rfl (cell_one_new _ _ _) ?h1c ?hb1 ?_)
      case h1c => intro u hu; simp at hu; subst hu; rfl
      case hb1 => omega
      intro w2 hown2 hgrow2
      rw [get_of_list] at hown2
      have hown3 : w2.ownsRow w.heap.size 5 1 (.slice (some ⟨w.heap.size, 0, none⟩) (k + 1) (len + 1)) (k + 1) (row zs (k + 1)) := by
        rw [row_succ zs k (by omega), hzk]
        have e : byteV (tabAt z) = .int .u8 ((tabL.getD (z % 65).toNat 0).toNat : Int) := by
          unfold byteV tabAt
          rw [show z.toNat % 65 = (z % 65).toNat by omega]
        rw [e]
        exact hown2
      have hb2 : Below w.heap.size w w2 := (hb.alloc hb.size _).grown hgrow2 (by have := hb.size; simp; omega) (by simp)
      clear hown2 hgrow2
      go_wp2
      go_roundw
      case rel => exact ⟨k + 1, by omega, by go_num, rfl, hown3, hb2⟩
      case measure => simp [intOf]; omega
    · have hke : k = len := by omega
      subst hke
      obtain ⟨L, hrow, hlen, hall⟩ : ∃ L : List UInt8, row zs k = L.map byteV ∧ L.length = k ∧ Hid (allOk L = true) :=
        ⟨zs.map tabAt, by unfold row; rw [List.take_of_length_le (by omega)]; simp, by simpa using hz, tab_all zs⟩
      rw [hrow] at hown
      clear hrow hc hwz
      cases pl with
      | false =>
        have hcv := run_conv hlen hown
        have HG := hide (good_all (unhide hall))
        have hszS := size_arr L
        rw [hlen] at hszS HG
        obtain ⟨S, hS⟩ : ∃ S : ByteArray, (⟨L.toArray⟩ : ByteArray) = S := ⟨_, rfl⟩
        rw [hS] at hcv HG hszS
        clear hS hown
        rcases (show k < 1 ∨ (1 ≤ k ∧ k ≤ 64) ∨ (1 ≤ k ∧ 64 < k) by omega) with q0 | ⟨q0, q1⟩ | ⟨q0, q1⟩
        · have HB : Hid (good S = false) := by rw [unhide HG, decide_eq_false (by omega)]; rfl
          go_wp2_with fail
          refine (validPart_bad F S _ (by rw [hb.tape]; exact unhide HF) (unhide HB)).mono ?_
          rintro e w7 ⟨a, rfl, hb7⟩
          go_wp2
          go_ret
          exact ⟨rfl, hb.trans (hb7.mono hb.size)⟩
        · have HB : Hid (good S = true) := by rw [unhide HG, decide_eq_true q0, decide_eq_true q1]; rfl
          have d64 : decide ((k : Int) ≤ 64) = true := by simp; omega
          go_wp2_with fail
          refine (validPart_good S _ (unhide HB)).mono ?_
          rintro e w7 ⟨rfl, hb7⟩
          go_wp2
          go_ret
          exact ⟨rfl, hb.trans (hb7.mono hb.size)⟩
        · have HB : Hid (good S = false) := by rw [unhide HG, decide_eq_true q0, decide_eq_false (by omega)]; rfl
          have d64 : decide ((k : Int) ≤ 64) = false := by simp; omega
          go_wp2_with fail
          refine (validPart_bad F S _ (by rw [hb.tape]; exact unhide HF) (unhide HB)).mono ?_
          rintro e w7 ⟨a, rfl, hb7⟩
          go_wp2
          go_ret
          exact ⟨rfl, hb.trans (hb7.mono hb.size)⟩
      | true =>
        obtain ⟨p, hP, hpk⟩ : ∃ p : Nat, at' % ((k : Int) + 1) = (p : Int) ∧ p ≤ k := by
          have hpp0 : 0 ≤ at' % ((k : Int) + 1) := Int.emod_nonneg _ (by omega)
          have hpp1 : at' % ((k : Int) + 1) ≤ k := by have := Int.emod_lt_of_pos at' (show 0 < (k : Int) + 1 by omega); omega
          exact ⟨(at' % ((k : Int) + 1)).toNat, by omega, by omega⟩
        go_wp2_with (at_make; refine wpList_make_own _ rfl _ _ 27 rfl wr.heap.size 5 i0 (.int .u8 0) 1 Ybaf.underlying27 hi hz0 hz1 _ _ _ (k + 1) rfl rfl (by omega) (by rw [hz2]; omega) (by unfold maxLen; omega) (Nat.le_refl _) ?_)
        intro w3 hown3 hgrow3
        have hbk : w3.ownsRow w.heap.size 5 1 (.slice (some ⟨w.heap.size, 0, none⟩) k (k + 1)) k (L.map byteV) := hown.kept hgrow3 (Or.inr (by simp [Value.ownBlock]))
        have hcl := own_cells hbk
        have hz9 := hb.size
        have hlt9 := (hown.lt w.heap.size rfl).2
        go_wp2_with (at_builtin; refine wpList_append_fits _ rfl (.tmp 54) (.tmp 57) 27 rfl wr.heap.size 5 i0 1 Ybaf.underlying27 hi hz1 wr.heap.size 0 (k + 1) [] rfl hown3 ⟨w.heap.size, 0, none⟩ p (k + 1) ((L.take p).map byteV) rfl ?hn ?hc (bytes_oneCell _) ?hb1 ?_)
        case hn => simp; omega
        case hc =>
          intro j u hj
          have hjp : j < p := by have := (List.getElem?_eq_some_iff.1 hj).1; simp at this; omega
          rw [Addr.add_lit, Nat.zero_add, hcl j (by omega)]
          simp [show j < L.length by omega, hjp, byteV] at hj
          rw [hj]
        case hb1 => omega
        intro w4 hown4 hgrow4
        have hsz4 := hgrow4.size
        have hsz3 := hgrow3.size
        go_wp2_with (at_builtin; refine wpList_append_fits _ rfl (.tmp 59) (.tmp 61) 27 rfl wr.heap.size 5 i0 1 Ybaf.underlying27 hi hz1 wr.heap.size p (k + 1) _ rfl (hown4.alloc _) ⟨w4.heap.size, 0, none⟩ 1 1 [_] rfl rfl (cell_one_new _ _ _) ?h1c ?hb2 ?_)
        case h1c => intro u hu; simp at hu; subst hu; rfl
        case hb2 => omega
        intro w5 hown5 hgrow5
        rw [get_of_list] at hown5
        have hown5' : w5.ownsRow wr.heap.size 5 1 (.slice (some ⟨wr.heap.size, 0, none⟩) (p + 1) (k + 1)) (p + 1) ((L.take p ++ [badAt bad]).map byteV) := by
          rw [List.map_append, List.map_take]
          exact hown5
        have hsz5 := hgrow5.size
        have hbk4 := hbk.kept hgrow4 (Or.inr (by simp [Value.ownBlock]; omega))
        have hbk5 := (hbk4.alloc _).kept hgrow5 (Or.inr (by simp [Value.ownBlock]; omega))
        have hcl5 := own_cells hbk5
        have HC := hide hcl5
        clear hown5 hcl5 hcl hbk4 hbk hown3 hown4
        go_wp2_with (at_builtin; refine wpList_append_fits_any _ rfl (.tmp 63) (.tmp 66) 27 rfl wr.heap.size 5 i0 1 Ybaf.underlying27 hi hz1 wr.heap.size (p + 1) (k + 1) _ rfl hown5' _ (k - p) _ ((L.drop p).map byteV) rfl ?hn6 ?hno6 ?hc6 (bytes_oneCell _) ?hb6 ?_)
        case hn6 => simp; omega
        case hno6 => intro h; cases h
        case hc6 =>
          intro ad had j u hj
          have hjp : j < k - p := by have := (List.getElem?_eq_some_iff.1 hj).1; simp at this; omega
          obtain rfl := Option.some.inj had
          rw [Addr.add_lit, unhide HC (p + j) (by omega)]
          simp [show p + j < L.length by omega, byteV] at hj
          rw [hj]
        case hb6 => omega
        intro w6 hown6 hgrow6
        rw [show p + 1 + (k - p) = k + 1 by omega] at hown6 ⊢
        have hown6' : w6.ownsRow wr.heap.size 5 1 (.slice (some ⟨wr.heap.size, 0, none⟩) (k + 1) (k + 1)) (k + 1) ((L.take p ++ badAt bad :: L.drop p).map byteV) := by
          rw [List.map_append, List.map_take, List.map_cons, List.map_drop]
          exact hown6
        have hcv := run_conv (by simp; omega) hown6'
        have HG := hide (good_no (allOk_plant L p (badAt bad) (bad_no bad)))
        have hb3 : Below w.heap.size w w3 := hb.grown hgrow3 hz9 (by simp)
        have hb4 : Below w.heap.size w w4 := hb3.grown hgrow4 (by omega) (by simp; omega)
        have hb5 : Below w.heap.size w w5 := (hb4.alloc (by omega) _).grown hgrow5 (by simp; omega) (by simp; omega)
        have hb6 : Below w.heap.size w w6 := hb5.grown hgrow6 (by have := hb5.size; omega) (by simp; omega)
        have hsz6 : (L.take p ++ badAt bad :: L.drop p).length = k + 1 := by simp; omega
        clear hown6 hown6' hgrow6 hgrow5 hgrow4 hgrow3 hown5' hbk5 HC hown
        have hszS := size_arr (L.take p ++ badAt bad :: L.drop p)
        rw [hsz6] at hszS
        obtain ⟨S, hS⟩ : ∃ S : ByteArray, (⟨(L.take p ++ badAt bad :: L.drop p).toArray⟩ : ByteArray) = S := ⟨_, rfl⟩
        rw [hS] at hcv HG hszS
        clear hS hsz6
        go_wp2_with fail
        refine (validPart_bad F S _ (by rw [hb6.tape]; exact unhide HF) (unhide HG)).mono ?_
        rintro e w7 ⟨a, rfl, hb7⟩
        go_wp2
        go_ret
        exact ⟨rfl, hb6.trans (hb7.mono hb6.size)⟩

/-- Too long: the law says nothing and answers true. -/
theorem built_long (ao : Option Addr) (len cap : Nat) (pl : Bool) (bad at' : Int) (w : World) (hle : 1024 < len) (hm : len ≤ maxLen) :
    Calls Ybaf.prog 4 #[.slice ao len cap, .bool pl, .int .u8 bad, .int .u8 at'] w fun e w' => e = .returned (.bool true) ∧ Below w.heap.size w w' := by
  unfold maxLen at hm
  go_enter Ybaf.func4, Ybaf.ntmps4
  go_wp2
  go_ret
  exact ⟨rfl, Below.refl _ _⟩

end Go.Proofs.YbulkblgkFmt
