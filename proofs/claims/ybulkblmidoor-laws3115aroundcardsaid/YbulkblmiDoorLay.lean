/-
  What the law has laid when it calls nextRound.
-/
import Derived.Test.YbulkblmiDoorParts
import Derived.Test.YbulkblmiDoorRound
namespace Go.Proofs.YbulkblmiDoor
open Go.RowKit

theorem lay_all {w w12 : World} {ab nb grb k nN len mark gf pos nx fr : Nat} {inp : ByteArray} {q : Option Addr} {ti : Bool} {xs : List Value} {l : List (Nat × Bool)}
    (hR : w12.ownsRow w.heap.size 33 1 (.slice (some ⟨nb, 0, none⟩) nN nN) nN xs) (hxp : ∀ u ∈ xs, ∃ x : Nat, u = .pointer (some ⟨x, 0, none⟩)) (hG : GR w12 grb l) (hl : l.length = len) (hgf : gf ≤ len) (hlen : len ≤ 1024) (hn : nN ≤ 5) (hmn : mark ≤ nN) (hk : k ≤ 5)
    (hww : w.heap.size ≤ w12.heap.size) (hab : ab < nb) (hng : nb < grb) (hgl : grb < w12.heap.size) :
    ∃ w13, ((((w12.alloc (.cells #[strR, .int .i64 0, .pointer none, .int .i64 0, .slice (some ⟨ab, 0, none⟩) k k] 46)).alloc
      (.cells #[.int .i64 0, .int .i64 pos, .pointer none, .int .i64 0, .bool false, .bool false, .bool false, .int .i64 0, .int .i64 0, .bool false, .bool false, .int .i64 0, .int .i64 pos, .pointer q, .int .i64 fr, .bool false, .bool ti, .bool true, .int .i64 0, .int .i64 gf, .bool false, .bool false] 49)).alloc
      (.cells #[.slice (some ⟨w12.heap.size, 0, none⟩) 1 1, .slice none 0 0, .string inp, .slice none 0 0, .int .i64 0, .slice (some ⟨nb, 0, none⟩) nN nN, .bool false, .int .i64 0, .pointer none, .map none, .int .i64 0, .slice none 0 0, .slice none 0 0, .slice none 0 0, .int .i64 0, .slice (some ⟨grb, 0, none⟩) len len, .int .i64 0, .slice none 0 0, .slice none 0 0, .slice none 0 0, .int .i64 0, .slice none 0 0, .slice none 0 0, .slice (some ⟨w12.heap.size + 1, 0, none⟩) 2 2, .int .i64 0, .int .i64 0] 68)).alloc
      (.cells #[.int .u8 5, .int .i64 0, .slice none 0 0, .pointer none, .string { data := #[] }, .slice none 0 0, .string { data := #[] }, .int .i64 0, .int .i64 0, .int .i64 0, .bool false] 30)).alloc
      (.cells #[.pointer (some ⟨w12.heap.size + 1 + 1 + 1, 0, none⟩), .int .i64 pos, .int .i64 nx, .int .i64 0, .int .i64 mark, .int .i64 (-1), .pointer none, .int .i64 0] 71) = w13 ∧
      Laid w13 (w12.heap.size + 1 + 1) (w12.heap.size + 1 + 1 + 1 + 1) (w12.heap.size + 1 + 1 + 1) w12.heap.size ab (w12.heap.size + 1) grb nb k nN len mark gf pos nx fr inp (.pointer q) ti xs l w.heap.size ∧ Turns w12 w13 (fun _ => False) ∧ w13.heap.size = w12.heap.size + 5 := by
  have s1 := World.size_alloc w12 (.cells #[strR, .int .i64 0, .pointer none, .int .i64 0, .slice (some ⟨ab, 0, none⟩) k k] 46)
  have b1 := Blk.new w12 #[strR, .int .i64 0, .pointer none, .int .i64 0, .slice (some ⟨ab, 0, none⟩) k k] 46
  have T1 := (Turns.refl w12 (fun _ => False)).alloc (.cells #[strR, .int .i64 0, .pointer none, .int .i64 0, .slice (some ⟨ab, 0, none⟩) k k] 46)
  obtain ⟨W1, hW1⟩ : ∃ W1, w12.alloc (.cells #[strR, .int .i64 0, .pointer none, .int .i64 0, .slice (some ⟨ab, 0, none⟩) k k] 46) = W1 := ⟨_, rfl⟩
  rw [hW1] at s1 b1 T1 ⊢
  have s2 := World.size_alloc W1 (.cells (gcells pos (.pointer q) fr ti true gf) 49)
  have b2 := Blk.new W1 (gcells pos (.pointer q) fr ti true gf) 49
  have b12 := b1.alloc (.cells (gcells pos (.pointer q) fr ti true gf) 49)
  have T2 := T1.alloc (.cells (gcells pos (.pointer q) fr ti true gf) 49)
  obtain ⟨W2, hW2⟩ : ∃ W2, W1.alloc (.cells (gcells pos (.pointer q) fr ti true gf) 49) = W2 := ⟨_, rfl⟩
  rw [hW2] at s2 b2 b12 T2
  have hW2' : W1.alloc (.cells #[.int .i64 0, .int .i64 pos, .pointer none, .int .i64 0, .bool false, .bool false, .bool false, .int .i64 0, .int .i64 0, .bool false, .bool false, .int .i64 0, .int .i64 pos, .pointer q, .int .i64 fr, .bool false, .bool ti, .bool true, .int .i64 0, .int .i64 gf, .bool false, .bool false] 49) = W2 := hW2
  rw [hW2']
  have s3 := World.size_alloc W2 (.cells (pcells ⟨.slice (some ⟨w12.heap.size, 0, none⟩) 1 1, .string inp, .slice (some ⟨nb, 0, none⟩) nN nN, 0, .pointer none, .slice (some ⟨grb, 0, none⟩) len len, .slice (some ⟨w12.heap.size + 1, 0, none⟩) 2 2, 0, 0⟩) 68)
  have b3 := Blk.new W2 (pcells ⟨.slice (some ⟨w12.heap.size, 0, none⟩) 1 1, .string inp, .slice (some ⟨nb, 0, none⟩) nN nN, 0, .pointer none, .slice (some ⟨grb, 0, none⟩) len len, .slice (some ⟨w12.heap.size + 1, 0, none⟩) 2 2, 0, 0⟩) 68
  have b13 := b12.alloc (.cells (pcells ⟨.slice (some ⟨w12.heap.size, 0, none⟩) 1 1, .string inp, .slice (some ⟨nb, 0, none⟩) nN nN, 0, .pointer none, .slice (some ⟨grb, 0, none⟩) len len, .slice (some ⟨w12.heap.size + 1, 0, none⟩) 2 2, 0, 0⟩) 68)
  have b23 := b2.alloc (.cells (pcells ⟨.slice (some ⟨w12.heap.size, 0, none⟩) 1 1, .string inp, .slice (some ⟨nb, 0, none⟩) nN nN, 0, .pointer none, .slice (some ⟨grb, 0, none⟩) len len, .slice (some ⟨w12.heap.size + 1, 0, none⟩) 2 2, 0, 0⟩) 68)
  have T3 := T2.alloc (.cells (pcells ⟨.slice (some ⟨w12.heap.size, 0, none⟩) 1 1, .string inp, .slice (some ⟨nb, 0, none⟩) nN nN, 0, .pointer none, .slice (some ⟨grb, 0, none⟩) len len, .slice (some ⟨w12.heap.size + 1, 0, none⟩) 2 2, 0, 0⟩) 68)
  obtain ⟨W3, hW3⟩ : ∃ W3, W2.alloc (.cells (pcells ⟨.slice (some ⟨w12.heap.size, 0, none⟩) 1 1, .string inp, .slice (some ⟨nb, 0, none⟩) nN nN, 0, .pointer none, .slice (some ⟨grb, 0, none⟩) len len, .slice (some ⟨w12.heap.size + 1, 0, none⟩) 2 2, 0, 0⟩) 68) = W3 := ⟨_, rfl⟩
  rw [hW3] at s3 b3 b13 b23 T3
  have hW3' : W2.alloc (.cells #[.slice (some ⟨w12.heap.size, 0, none⟩) 1 1, .slice none 0 0, .string inp, .slice none 0 0, .int .i64 0, .slice (some ⟨nb, 0, none⟩) nN nN, .bool false, .int .i64 0, .pointer none, .map none, .int .i64 0, .slice none 0 0, .slice none 0 0, .slice none 0 0, .int .i64 0, .slice (some ⟨grb, 0, none⟩) len len, .int .i64 0, .slice none 0 0, .slice none 0 0, .slice none 0 0, .int .i64 0, .slice none 0 0, .slice none 0 0, .slice (some ⟨w12.heap.size + 1, 0, none⟩) 2 2, .int .i64 0, .int .i64 0] 68) = W3 := hW3
  rw [hW3']
  have s4 := World.size_alloc W3 (.cells #[.int .u8 5, .int .i64 0, .slice none 0 0, .pointer none, .string { data := #[] }, .slice none 0 0, .string { data := #[] }, .int .i64 0, .int .i64 0, .int .i64 0, .bool false] 30)
  have b4 := Blk.new W3 #[.int .u8 5, .int .i64 0, .slice none 0 0, .pointer none, .string { data := #[] }, .slice none 0 0, .string { data := #[] }, .int .i64 0, .int .i64 0, .int .i64 0, .bool false] 30
  have b14 := b13.alloc (.cells #[.int .u8 5, .int .i64 0, .slice none 0 0, .pointer none, .string { data := #[] }, .slice none 0 0, .string { data := #[] }, .int .i64 0, .int .i64 0, .int .i64 0, .bool false] 30)
  have b24 := b23.alloc (.cells #[.int .u8 5, .int .i64 0, .slice none 0 0, .pointer none, .string { data := #[] }, .slice none 0 0, .string { data := #[] }, .int .i64 0, .int .i64 0, .int .i64 0, .bool false] 30)
  have b34 := b3.alloc (.cells #[.int .u8 5, .int .i64 0, .slice none 0 0, .pointer none, .string { data := #[] }, .slice none 0 0, .string { data := #[] }, .int .i64 0, .int .i64 0, .int .i64 0, .bool false] 30)
  have T4 := T3.alloc (.cells #[.int .u8 5, .int .i64 0, .slice none 0 0, .pointer none, .string { data := #[] }, .slice none 0 0, .string { data := #[] }, .int .i64 0, .int .i64 0, .int .i64 0, .bool false] 30)
  obtain ⟨W4, hW4⟩ : ∃ W4, W3.alloc (.cells #[.int .u8 5, .int .i64 0, .slice none 0 0, .pointer none, .string { data := #[] }, .slice none 0 0, .string { data := #[] }, .int .i64 0, .int .i64 0, .int .i64 0, .bool false] 30) = W4 := ⟨_, rfl⟩
  rw [hW4] at s4 b4 b14 b24 b34 T4 ⊢
  have s5 := World.size_alloc W4 (.cells (fcells (.pointer (some ⟨w12.heap.size + 1 + 1 + 1, 0, none⟩)) pos nx mark) 71)
  have b5 := Blk.new W4 (fcells (.pointer (some ⟨w12.heap.size + 1 + 1 + 1, 0, none⟩)) pos nx mark) 71
  have b15 := b14.alloc (.cells (fcells (.pointer (some ⟨w12.heap.size + 1 + 1 + 1, 0, none⟩)) pos nx mark) 71)
  have b25 := b24.alloc (.cells (fcells (.pointer (some ⟨w12.heap.size + 1 + 1 + 1, 0, none⟩)) pos nx mark) 71)
  have b35 := b34.alloc (.cells (fcells (.pointer (some ⟨w12.heap.size + 1 + 1 + 1, 0, none⟩)) pos nx mark) 71)
  have b45 := b4.alloc (.cells (fcells (.pointer (some ⟨w12.heap.size + 1 + 1 + 1, 0, none⟩)) pos nx mark) 71)
  have T5 := T4.alloc (.cells (fcells (.pointer (some ⟨w12.heap.size + 1 + 1 + 1, 0, none⟩)) pos nx mark) 71)
  have e1 : W1.heap.size = w12.heap.size + 1 := s1
  have e2 : W2.heap.size = w12.heap.size + 1 + 1 := by rw [s2, e1]
  have e3 : W3.heap.size = w12.heap.size + 1 + 1 + 1 := by rw [s3, e2]
  have e4 : W4.heap.size = w12.heap.size + 1 + 1 + 1 + 1 := by rw [s4, e3]
  rw [e1] at b25
  rw [e2] at b35
  rw [e3] at b45
  rw [e4] at b5
  refine ⟨_, rfl, ?_, T5, ?_⟩
  · exact {
      hp := b35
      hf := b5
      hg := b25
      he := b45.cell 7 rfl
      hr0 := b15.cell 0 rfl
      hr4 := b15.cell 4 rfl
      hrow := row_turns hR T5 (fun _ _ h => h)
      hgr := hG.turns T5 (fun h => h)
      hgl := hl
      hgf := hgf
      hgk := hlen
      hm := hn
      hmm := hmn
      hk := hk
      hB := Nat.le_trans hww T5.2.2.2.1
      hab := hab
      hng := hng
      hgrb := hgl
      hrg := by omega
      hgp := by omega
      hpe := by omega
      hef := by omega
      h1c := fun u hu => by obtain ⟨x, rfl⟩ := hxp u hu; rfl }
  · show (W4.alloc (.cells (fcells (.pointer (some ⟨w12.heap.size + 1 + 1 + 1, 0, none⟩)) pos nx mark) 71)).heap.size = w12.heap.size + 5
    rw [s5, e4]
end Go.Proofs.YbulkblmiDoor
