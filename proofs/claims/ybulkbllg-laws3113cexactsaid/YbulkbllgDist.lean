/-
  binary.BigEndian.Uint64 and topology.distance, by their contracts.
-/
import Derived.Test.YbulkbllgLeaves
import Derived.Deep.RegionHeld3
namespace Go.Proofs.Ybulkbllg
open Go.RowKit

theorem be8_eq (x0 x1 x2 x3 x4 x5 x6 x7 : Int) : be8 [x0, x1, x2, x3, x4, x5, x6, x7] = x7 + x6 * 256 + x5 * 65536 + x4 * 16777216 + x3 * 4294967296 + x2 * 1099511627776 + x1 * 281474976710656 + x0 * 72057594037927936 := by
  simp only [be8, List.foldl]
  omega

theorem ret_u64 {a b : Int} (h : a = b) : Ending.returned (.int .u64 a) = .returned (.int .u64 b) := by rw [h]

set_option maxHeartbeats 4000000 in
set_option maxRecDepth 100000 in
theorem uint64_any (g o n c : Nat) (x0 x1 x2 x3 x4 x5 x6 x7 : Int) (w : World) (hn : 8 ≤ n) (h0 : IsB x0) (h1 : IsB x1) (h2 : IsB x2) (h3 : IsB x3) (h4 : IsB x4) (h5 : IsB x5) (h6 : IsB x6) (h7 : IsB x7)
    (c0 : w.cell? ⟨g, o, none⟩ = some (.int .u8 x0)) (c1 : w.cell? ⟨g, o + 1, none⟩ = some (.int .u8 x1)) (c2 : w.cell? ⟨g, o + 2, none⟩ = some (.int .u8 x2)) (c3 : w.cell? ⟨g, o + 3, none⟩ = some (.int .u8 x3))
    (c4 : w.cell? ⟨g, o + 4, none⟩ = some (.int .u8 x4)) (c5 : w.cell? ⟨g, o + 5, none⟩ = some (.int .u8 x5)) (c6 : w.cell? ⟨g, o + 6, none⟩ = some (.int .u8 x6)) (c7 : w.cell? ⟨g, o + 7, none⟩ = some (.int .u8 x7)) :
    Calls Yba.prog 11 #[.agg #[], .slice (some ⟨g, o, none⟩) n c] w fun e w' => e = .returned (.int .u64 (be8 [x0, x1, x2, x3, x4, x5, x6, x7])) ∧ Below w.heap.size w w' := by
  obtain ⟨a0, b0⟩ := h0; obtain ⟨a1, b1⟩ := h1; obtain ⟨a2, b2⟩ := h2; obtain ⟨a3, b3⟩ := h3; obtain ⟨a4, b4⟩ := h4; obtain ⟨a5, b5⟩ := h5; obtain ⟨a6, b6⟩ := h6; obtain ⟨a7, b7⟩ := h7
  have hg : g < w.heap.size := World.block_lt_of_cell? w _ c0
  have q0 : 0 < n := by omega
  have q1 : (1 : Int) < (n : Int) := by omega
  have q2 : (2 : Int) < (n : Int) := by omega
  have q3 : (3 : Int) < (n : Int) := by omega
  have q4 : (4 : Int) < (n : Int) := by omega
  have q5 : (5 : Int) < (n : Int) := by omega
  have q6 : (6 : Int) < (n : Int) := by omega
  have q7 : (7 : Int) < (n : Int) := by omega
  go_enter Yba.func11, Yba.ntmps11
  go_wp2
  go_quiet (fail)
  go_wp2
  go_ret
  refine ⟨ret_u64 ?_, ((Below.refl _ w).alloc (Nat.le_refl _) _).trans ⟨rfl, rfl, rfl, Nat.le_refl _, fun _ _ => rfl⟩⟩
  simp (disch := omega) only [u64_or8, u64_or16, u64_or24, u64_or32, u64_or40, u64_or48, u64_or56]
  rw [be8_eq]

/-- Sixteen bytes. -/
structure Is16 (l : List Int) : Prop where
  len : l.length = 16
  byte : ∀ i, IsB (l.getD i 0)

/-- The upper half of the number that sixteen bytes spell, and the lower one. -/
def hiW (l : List Int) : Int := be8 [l.getD 0 0, l.getD 1 0, l.getD 2 0, l.getD 3 0, l.getD 4 0, l.getD 5 0, l.getD 6 0, l.getD 7 0]
def loW (l : List Int) : Int := be8 [l.getD 8 0, l.getD 9 0, l.getD 10 0, l.getD 11 0, l.getD 12 0, l.getD 13 0, l.getD 14 0, l.getD 15 0]

theorem be8_word (x0 x1 x2 x3 x4 x5 x6 x7 : Int) (h0 : IsB x0) (h1 : IsB x1) (h2 : IsB x2) (h3 : IsB x3) (h4 : IsB x4) (h5 : IsB x5) (h6 : IsB x6) (h7 : IsB x7) : IsW (be8 [x0, x1, x2, x3, x4, x5, x6, x7]) := by
  rw [be8_eq]
  obtain ⟨a0, b0⟩ := h0; obtain ⟨a1, b1⟩ := h1; obtain ⟨a2, b2⟩ := h2; obtain ⟨a3, b3⟩ := h3; obtain ⟨a4, b4⟩ := h4; obtain ⟨a5, b5⟩ := h5; obtain ⟨a6, b6⟩ := h6; obtain ⟨a7, b7⟩ := h7
  constructor <;> omega
theorem hiW_word {l : List Int} (h : Is16 l) : IsW (hiW l) := be8_word _ _ _ _ _ _ _ _ (h.byte 0) (h.byte 1) (h.byte 2) (h.byte 3) (h.byte 4) (h.byte 5) (h.byte 6) (h.byte 7)
theorem loW_word {l : List Int} (h : Is16 l) : IsW (loW l) := be8_word _ _ _ _ _ _ _ _ (h.byte 8) (h.byte 9) (h.byte 10) (h.byte 11) (h.byte 12) (h.byte 13) (h.byte 14) (h.byte 15)

/-- The cells of block g are the bytes l. -/
def Row16 (w : World) (g : Nat) (l : List Int) : Prop := ∀ i, i < 16 → w.cell? ⟨g, i, none⟩ = some (.int .u8 (l.getD i 0))
theorem Row16.of_block {w : World} {g : Nat} {l : List Int} {t : TypeId} {fr : Nat × Nat} (hl : l.length = 16) (h : w.heap[g]? = some (.cells (bv l) t fr)) : Row16 w g l := fun i hi => by
  simp [World.cell?, h, bv, List.getD_eq_getElem?_getD, show i < l.length by omega]

theorem u64_hi {g : Nat} {l : List Int} {B : Nat} {W0 : World} (h : Is16 l) (hr : Row16 W0 g l) (hg : g < B) (hB : B ≤ W0.heap.size) : ∀ w', Below B W0 w' →
    Calls Yba.prog 11 #[.agg #[], .slice (some ⟨g, 0, none⟩) 8 16] w' fun e w'' => e = .returned (.int .u64 (hiW l)) ∧ Below B W0 w'' := fun w' hb => by
  have hc : ∀ i, i < 16 → w'.cell? ⟨g, i, none⟩ = some (.int .u8 (l.getD i 0)) := fun i hi => (hb.cell (p := ⟨g, i, none⟩) hg).trans (hr i hi)
  refine (uint64_any g 0 8 16 _ _ _ _ _ _ _ _ w' (Nat.le_refl _) (h.byte 0) (h.byte 1) (h.byte 2) (h.byte 3) (h.byte 4) (h.byte 5) (h.byte 6) (h.byte 7) (hc 0 (by omega)) (hc 1 (by omega)) (hc 2 (by omega)) (hc 3 (by omega)) (hc 4 (by omega)) (hc 5 (by omega)) (hc 6 (by omega)) (hc 7 (by omega))).mono ?_
  rintro e w'' ⟨rfl, hb2⟩
  exact ⟨rfl, hb.trans (hb2.mono (Nat.le_trans hB hb.size))⟩

theorem u64_lo {g : Nat} {l : List Int} {B : Nat} {W0 : World} (h : Is16 l) (hr : Row16 W0 g l) (hg : g < B) (hB : B ≤ W0.heap.size) : ∀ w', Below B W0 w' →
    Calls Yba.prog 11 #[.agg #[], .slice (some ⟨g, 8, none⟩) 8 8] w' fun e w'' => e = .returned (.int .u64 (loW l)) ∧ Below B W0 w'' := fun w' hb => by
  have hc : ∀ i, i < 16 → w'.cell? ⟨g, i, none⟩ = some (.int .u8 (l.getD i 0)) := fun i hi => (hb.cell (p := ⟨g, i, none⟩) hg).trans (hr i hi)
  refine (uint64_any g 8 8 8 _ _ _ _ _ _ _ _ w' (Nat.le_refl _) (h.byte 8) (h.byte 9) (h.byte 10) (h.byte 11) (h.byte 12) (h.byte 13) (h.byte 14) (h.byte 15) (hc 8 (by omega)) (hc 9 (by omega)) (hc 10 (by omega)) (hc 11 (by omega)) (hc 12 (by omega)) (hc 13 (by omega)) (hc 14 (by omega)) (hc 15 (by omega))).mono ?_
  rintro e w'' ⟨rfl, hb2⟩
  exact ⟨rfl, hb.trans (hb2.mono (Nat.le_trans hB hb.size))⟩

set_option maxRecDepth 100000 in
set_option maxHeartbeats 2000000 in
theorem distance_any (a b : List Int) (w : World) (ha : Is16 a) (hb : Is16 b) :
    Calls Yba.prog 7 #[.agg (bv a), .agg (bv b)] w fun e w' => e = .returned (.tuple #[.int .u64 ((hiW b - hiW a - bor (loW b) (loW a)) % 18446744073709551616), .int .u64 ((loW b - loW a) % 18446744073709551616)]) ∧ Below w.heap.size w w' := by
  have hla := loW_word ha
  have hlb := loW_word hb
  have hha := hiW_word ha
  have hhb := hiW_word hb
  obtain ⟨W0, hW0⟩ : ∃ W0, ((w.alloc (.cells (bv a) 25)).alloc (.cells (bv b) 25)) = W0 := ⟨_, rfl⟩
  have hsz : W0.heap.size = w.heap.size + 2 := by rw [← hW0]; simp
  have hra : Row16 W0 w.heap.size a := Row16.of_block (t := 25) (fr := (0, 0)) ha.len (by rw [← hW0, Below.heap_alloc _ _ _ (by simp)]; exact heap_alloc_new w _)
  have hrb : Row16 W0 (w.heap.size + 1) b := Row16.of_block (t := 25) (fr := (0, 0)) hb.len (by
    rw [← hW0]
    have := heap_alloc_new (w.alloc (.cells (bv a) 25)) (.cells (bv b) 25)
    rw [World.size_alloc] at this
    exact this)
  have cbl := u64_lo (B := w.heap.size + 2) hb hrb (by omega) (by omega)
  have cal := u64_lo (B := w.heap.size + 2) ha hra (by omega) (by omega)
  have cbh := u64_hi (B := w.heap.size + 2) hb hrb (by omega) (by omega)
  have cah := u64_hi (B := w.heap.size + 2) ha hra (by omega) (by omega)
  have hbw : Below w.heap.size w W0 := by rw [← hW0]; exact ((Below.refl _ _).alloc (Nat.le_refl _) _).alloc (by simp) _
  have s1 := sub64_0 (loW b) (loW a) hlb.1 hla
  have s2 := sub64 (hiW b) (hiW a) (bor (loW b) (loW a)) hhb.1 hha (bor_01 _ _)
  have CBL := hide cbl
  have CAL := hide cal
  have CBH := hide cbh
  have CAH := hide cah
  have HW0 := hide hW0
  have HSZ := hide hsz
  clear hra hrb cbl cal cbh cah hW0 hsz hla hlb hha hhb ha hb
  generalize loW b = lb at *
  generalize loW a = la at *
  generalize hiW b = xb at *
  generalize hiW a = xa at *
  generalize bor lb la = br at *
  go_enter Yba.func7, Yba.ntmps7
  go_wp2
  rw [unhide HW0]
  have tokB : True := trivial
  go_region_held3 (fun w' => Below (w.heap.size + 2) W0 w') (first | assumption | exact Below.refl _ _ | exact (Below.refl _ _).drew)
    (first
      | (go_at_call 11; have _t := tokB; refine (unhide CBL _ ?_).mono ?_; (first | assumption | exact (Below.refl _ _).drew); rintro e w1 ⟨rfl, hb1⟩; clear tokB)
      | (go_at_call 11; refine (unhide CAL _ ?_).mono ?_; (first | assumption | exact (Below.refl _ _).drew); rintro e w2 ⟨rfl, hb2⟩))
  have tokC : True := trivial
  go_wp2
  go_region_held3 (fun w' => Below (w.heap.size + 2) W0 w') (first | assumption | exact hb2.drew)
    (first
      | (go_at_call 11; have _t := tokC; refine (unhide CBH _ ?_).mono ?_; (first | assumption | exact hb2.drew); rintro e w3 ⟨rfl, hb3⟩; clear tokC)
      | (go_at_call 11; refine (unhide CAH _ ?_).mono ?_; (first | assumption | exact hb3.drew); rintro e w4 ⟨rfl, hb4⟩))
  go_wp2
  go_ret2
  exact ⟨rfl, hbw.trans (hb4.mono (by omega))⟩

end Go.Proofs.Ybulkbllg
