/-
  THE WALK OF LawS3111BSearch.
-/
import Derived.Test.YbulkblkeCopy
namespace Go.Proofs.Ybulkblke
open Go.RowKit

theorem size28 : (Yba.prog.info? 28).map (·.size) = some 2 := by kernel_rfl
theorem flat_oneCell (l : List (Int × Int)) : ∀ v ∈ flat l, v.oneCell' = true := by
  intro v hv
  unfold flat at hv
  rw [List.mem_flatMap] at hv
  obtain ⟨x, _, hx⟩ := hv
  simp at hx
  rcases hx with rfl | rfl <;> rfl

theorem slots_of {w : World} {base g n : Nat} {S : List (Int × Int)} (h : w.ownsRow base 28 2 (.slice (some ⟨g, 0, none⟩) n n) n (flat S)) (hl : S.length = n) : SlotRow w w.heap.size g S :=
  ⟨(h.lt g rfl).2, fun i hi => ⟨by rw [h.cellAt (i * 2) (by omega)]; exact (flat_at S i hi).1, by rw [h.cellAt (i * 2 + 1) (by omega)]; exact (flat_at S i hi).2⟩⟩
theorem SlotRow.mono {w : World} {B B' g : Nat} {S : List (Int × Int)} (h : SlotRow w B g S) (hB : B ≤ B') : SlotRow w B' g S := ⟨Nat.lt_of_lt_of_le h.1 hB, h.2⟩
theorem Row32.mono {w : World} {B B' : Nat} {ao : Option Addr} {A : List Int} (h : Row32 w B ao A) (hB : B ≤ B') : Row32 w B' ao A := fun k hk => by
  obtain ⟨b, off, h1, h2, h3⟩ := h k hk
  exact ⟨b, off, h1, by omega, h3⟩

theorem own_view {w : World} {base : Nat} {e : TypeId} {v : Value} {n : Nat} {xs : List Value} (h : w.ownsRow base e 1 v n xs) : ∃ ao cap, v = .slice ao n cap ∧ ∀ k, k < n → ∃ g, ao = some ⟨g, 0, none⟩ ∧ base ≤ g ∧ g < w.heap.size ∧ w.cell? ⟨g, k, none⟩ = xs[k]? := by
  rcases h.2 with ⟨rfl, rfl⟩ | ⟨g, cap, cur, rfl, hb, hg, _⟩
  · exact ⟨none, 0, rfl, fun k hk => absurd hk (by omega)⟩
  · exact ⟨some ⟨g, 0, none⟩, cap, rfl, fun k hk => ⟨g, rfl, hb, lt_of_block hg, h.cellAt k (by omega)⟩⟩

theorem own_row32 {w : World} {base : Nat} {v : Value} {lg : List Int} (h : w.ownsRow base 23 1 v lg.length (lg.map (Value.int .u32))) : ∃ ao cap, v = .slice ao lg.length cap ∧ Row32 w w.heap.size ao lg := by
  obtain ⟨ao, cap, hv, hc⟩ := own_view h
  refine ⟨ao, cap, hv, fun k hk => ?_⟩
  obtain ⟨g, h1, _, h3, h4⟩ := hc k hk
  refine ⟨g, 0, h1, h3, ?_⟩
  rw [Nat.zero_add, h4]
  simp [hk, List.getD_eq_getElem?_getD]

theorem cell_new2 (w : World) (c : Array Value) (t t' : TypeId) (x : Value) : ∀ j u, [x][j]? = some u → ((w.alloc (.cells c t)).alloc (.cells #[x] t')).cell? ((⟨w.heap.size + 1, 0, none⟩ : Addr).add j) = some u := by
  have h := cell_one_new (w.alloc (.cells c t)) x t'
  rw [World.size_alloc] at h
  exact h

theorem law_long (k tag : Int) (dv : Value) (ao : Option Addr) (len cap : Nat) (w : World) (hl : 1024 < len) (hm : len ≤ maxLen) :
    Calls Yba.prog 3 #[.int .u8 k, dv, .int .u32 tag, .slice ao len cap] w fun e w' => e = .returned (.bool true) ∧ Below w.heap.size w w' := by
  unfold maxLen at hm
  go_enter Yba.func3, Yba.ntmps3
  go_wp2
  go_ret
  exact ⟨rfl, (Below.refl _ _).alloc (Nat.le_refl _) _⟩

set_option maxRecDepth 100000 in
set_option maxHeartbeats 2000000 in
theorem law_any (k tag : Int) (aoD : Option Addr) (capD : Nat) (D : List (Int × Int)) (aoA : Option Addr) (capA : Nat) (A : List Int) (w : World)
    (hk0 : 0 ≤ k) (hk1 : k ≤ 255) (ht0 : 0 ≤ tag) (ht1 : tag < 4294967296) (hmD : D.length ≤ maxLen) (hA : A.length ≤ 1024) (hD : PairRow w w.heap.size aoD D) (hAr : Row32 w w.heap.size aoA A) :
    Calls Yba.prog 3 #[.int .u8 k, .slice aoD D.length capD, .int .u32 tag, .slice aoA A.length capA] w fun e w' => e = .returned (.bool true) ∧ Below w.heap.size w w' := by
  have hmA : A.length ≤ maxLen := by unfold maxLen; omega
  obtain ⟨i0, hi, hz0, hz1, hz2⟩ := info_parts info28
  have hb0 : Below w.heap.size w (w.alloc (.cells #[.slice aoA A.length capA] 24)) := (Below.refl _ _).alloc (Nat.le_refl _) _
  have hc0 : (w.alloc (.cells #[.slice aoA A.length capA] 24)).cell? ⟨w.heap.size, 0, none⟩ = some (.slice aoA A.length capA) := by simp
  have hD0 : PairRow (w.alloc (.cells #[.slice aoA A.length capA] 24)) (w.alloc (.cells #[.slice aoA A.length capA] 24)).heap.size aoD D := fun q hq => by
    obtain ⟨b, off, h1, h2, h3, h4⟩ := hD q hq
    exact ⟨b, off, h1, by simp; omega, (hb0.cell (p := ⟨b, _, none⟩) h2).trans h3, (hb0.cell (p := ⟨b, _, none⟩) h2).trans h4⟩
  have cB := build_any k aoD capD D (w.alloc (.cells #[.slice aoA A.length capA] 24)) hk0 hk1 hmD hD0
  simp only [World.size_alloc] at cB
  have hfree := built_free (2 ^ (k.toNat % 9)) D Nat.one_le_two_pow
  have hlen := built_length (2 ^ (k.toNat % 9)) D
  have hn256 : 2 ^ (k.toNat % 9) ≤ 256 := Nat.pow_le_pow_right (n := 2) (by decide) (show k.toNat % 9 ≤ 8 by omega)
  have hn1 : 1 ≤ 2 ^ (k.toNat % 9) := Nat.one_le_two_pow
  obtain ⟨j, hj, hjn⟩ : ∃ j, j ≤ 8 ∧ 2 ^ (k.toNat % 9) = 2 ^ j := ⟨k.toNat % 9, by omega, rfl⟩
  obtain ⟨n, hn⟩ : ∃ n, 2 ^ (k.toNat % 9) = n := ⟨_, rfl⟩
  rw [hn] at cB hfree hlen hn256 hn1 hjn
  obtain ⟨S, hS⟩ : ∃ S, built n D = S := ⟨_, rfl⟩
  rw [hS] at cB hfree hlen
  have HB := hide cB
  have HF := hide hfree
  have HJ := hide hjn
  have HAR := hide hAr
  have HC0 := hide hc0
  clear cB hfree hn hS hD0 hD hc0 hAr hjn
  have hA1 : decide (1024 < (A.length : Int)) = false := by simp; omega
  go_enter Yba.func3, Yba.ntmps3
  go_wp2_with fail
  refine (unhide HB).mono ?_
  rintro e w1 ⟨rfl, hown1, hb1⟩
  clear HB
  go_wp2_with (at_make; refine wpList_make_full _ rfl _ _ 25 rfl w1.heap.size 28 i0 (.agg #[.int .u32 0, .int .u32 0]) 2 Yba.underlying25 hi hz0 hz1 _ _ _ _ n rfl rfl rfl rfl (by rw [hz2]; omega) (by unfold maxLen; omega) (Nat.le_refl _) ?_)
  intro w2 hown2 hgrow2
  rw [made_flat] at hown2
  have hlt1 := (hown1.lt (w.heap.size + 1) rfl).2
  have hown1b := hown1.kept hgrow2 (Or.inr (by simp [Value.ownBlock]))
  obtain ⟨w3, hrun, hown3, hgrow3⟩ := run_copy_rows (P := Yba.prog) 25 3 28 2 w1.heap.size n n (w.heap.size + 1) n w1.heap.size (w.heap.size + 1) _ (flat S) Yba.underlying25 size28 hown2 hown1b (flat_oneCell S)
  have hown1c := hown1b.kept hgrow3 (Or.inr (by simp [Value.ownBlock]; omega))
  have hb1' : Below w.heap.size w w1 := hb0.trans (hb1.mono (by omega))
  have hsz3 : w1.heap.size < w3.heap.size := Nat.lt_of_lt_of_le (hown2.lt w1.heap.size rfl).2 hgrow3.size
  have hb3 : Below (w.heap.size + 1) w1 w3 := ((Below.refl _ _).grown hgrow2 (by omega) (by simp)).grown hgrow3 (by have := hgrow2.size; omega) (by simp; omega)
  have hc3 : w3.cell? ⟨w.heap.size, 0, none⟩ = some (.slice aoA A.length capA) := by
    rw [hb3.cell (p := ⟨w.heap.size, 0, none⟩) (by simp), hb1.cell (p := ⟨w.heap.size, 0, none⟩) (by simp)]
    exact unhide HC0
  have hb3' : Below w.heap.size w w3 := hb1'.trans (hb3.mono (by omega))
  have HO1 := hide (slots_of hown1c hlen)
  have HO3 := hide (slots_of hown3 hlen)
  have HC3 := hide hc3
  have hsz1 := hb1'.size
  clear hown1 hown2 hgrow2 hown1b hgrow3 hown1c hown3 HC0 hc3 hb3 hb1 hb0
  go_wp2
  clear hrun
  go_loop [11, 12] (fun u i => ∃ q m : Nat, q ≤ n ∧ m ≤ q ∧ i = .int .i64 q ∧ u = .int .i64 m) (fun _ i => n - (intOf i).toNat)
  case atStart => exact ⟨0, 0, Nat.zero_le _, Nat.le_refl _, rfl, rfl⟩
  case round =>
    obtain ⟨q, m, hq, hmq, rfl, rfl⟩ := hrel
    by_cases hlt : q < n
    · have hp := ((unhide HO1).2 q (by omega)).2
      generalize (S.getD q (0, 0)).2 = p1 at hp
      cases hz : (p1 != 0) with
      | true =>
        go_wp2
        go_round
        case rel => exact ⟨q + 1, m + 1, by omega, by omega, by go_num, by go_num⟩
        case measure => simp [intOf]; omega
      | false =>
        go_wp2
        go_round
        case rel => exact ⟨q + 1, m, by omega, by omega, by go_num, rfl⟩
        case measure => simp [intOf]; omega
    · have hqn : n ≤ q := by omega
      clear hq hmq hlt
      obtain ⟨W, hW⟩ : ∃ W, ((w3.alloc (.cells #[.slice (some ⟨w.heap.size + 1, 0, none⟩) n n, .int .i64 m] 31)).alloc (.cells #[.slice none 0 0] 24)) = W := ⟨_, rfl⟩
      have hbW : Below w3.heap.size w3 W := by rw [← hW]; exact ((Below.refl _ _).alloc (Nat.le_refl _) _).alloc (by simp) _
      have hWx : W.cell? ⟨w3.heap.size, 0, none⟩ = some (.slice (some ⟨w.heap.size + 1, 0, none⟩) n n) := by rw [← hW]; simp
      have hWu : W.cell? ⟨w3.heap.size, 1, none⟩ = some (.int .i64 m) := by rw [← hW]; simp
      have hWl : W.heap[w3.heap.size + 1]? = some (.cells #[.slice none 0 0] 24 (0, 0)) := by
        rw [← hW]
        have := heap_alloc_new (w3.alloc (.cells #[.slice (some ⟨w.heap.size + 1, 0, none⟩) n n, .int .i64 m] 31)) (.cells #[.slice none 0 0] 24)
        rw [World.size_alloc] at this
        exact this
      have cS := search_any w3.heap.size (w.heap.size + 1) (w3.heap.size + 1) w.heap.size j n aoA capA S A tag W hj (unhide HJ) hlen ht0 ht1 hmA (unhide HF) (by omega) hWx (((unhide HO1).below hbW).mono (by omega)) hWl (by omega)
        ((hbW.cell (p := ⟨w.heap.size, 0, none⟩) (by show w.heap.size < w3.heap.size; omega)).trans (unhide HC3)) ((((unhide HAR).below hb3').mono hb3'.size).below hbW |>.mono (by omega))
      have hL := Left.start (tag := tag) (A := A) (s := tag.toNat % n) (Nat.mod_lt _ (by omega)) (unhide HF)
      obtain ⟨R, hR⟩ : ∃ R, probe S n tag A n (tag.toNat % n) = R := ⟨_, rfl⟩
      rw [hR] at cS hL
      obtain ⟨R1, R2, R3⟩ := R
      simp only at cS
      have HCS := hide cS
      have HL := hide hL
      have HWX := hide hWx
      have HWU := hide hWu
      have HW := hide hW
      clear cS hL hR hWl hWx hWu hW
      go_wp2_with fail
      rw [unhide HW]
      refine (unhide HCS).mono ?_
      rintro e w4 ⟨rfl, v4, hv4, hown4, hb4⟩
      clear HCS
      have hszW : W.heap.size = w3.heap.size + 2 := by rw [← unhide HW]; simp
      have hb4' : Below w3.heap.size w3 w4 := hbW.trans (hb4.mono (by omega))
      have HS1 := hide (((unhide HO1).below hb4'))
      have HS3 := hide (((unhide HO3).below hb4'))
      have HC4 : Hid (w4.cell? ⟨w.heap.size, 0, none⟩ = some (.slice aoA A.length capA)) := (hb4'.cell (p := ⟨w.heap.size, 0, none⟩) (by show w.heap.size < w3.heap.size; omega)).trans (unhide HC3)
      have HX4 : Hid (w4.cell? ⟨w3.heap.size, 0, none⟩ = some (.slice (some ⟨w.heap.size + 1, 0, none⟩) n n)) := (hb4.cell (p := ⟨w3.heap.size, 0, none⟩) (by show w3.heap.size < w3.heap.size + 1; omega)).trans (unhide HWX)
      have HU4 : Hid (w4.cell? ⟨w3.heap.size, 1, none⟩ = some (.int .i64 m)) := (hb4.cell (p := ⟨w3.heap.size, 1, none⟩) (by show w3.heap.size < w3.heap.size + 1; omega)).trans (unhide HWU)
      obtain ⟨ao4, cap4, rfl, hrow4⟩ := own_row32 hown4
      have HV4 := hide (cell_of_one hv4)
      have HO4 := hide hrow4
      have hsz4 : w3.heap.size + 1 < w4.heap.size := lt_of_block hv4
      have hb4w : Below w.heap.size w w4 := hb3'.trans (hb4'.mono hb3'.size)
      have HA4 := hide (((unhide HAR).below hb4w))
      have ea : ∀ x : Int, 0 ≤ x → x < 4294967296 → bits .and .u32 x ((n : Int) - 1) = x % (n : Int) := fun x h0 h1 => by
        have := and_mask x j h0 h1 hj
        rw [← unhide HJ] at this
        rw [← this]
        congr 1
        omega
      have hand := ea tag ht0 ht1
      have EA := hide ea
      clear hv4 hown4 hrow4 hb4 hb4' hbW ea HWX HWU HW HO1 HO3 HC3 HAR
      obtain ⟨iA, hiA, hzA0, hzA1, hzA2⟩ := info_parts info23
      go_wp2
      go_loopw [20, 21, 22, 23, 24] (fun a b v c d wr => ∃ (i s : Nat) (lg : List Int), i ≤ n ∧ d = .int .i64 i ∧ c = .int .u32 s ∧ a = .int .u32 0 ∧ b = .int .u32 0 ∧ Hid (Left S n tag A (R1, R2, R3) (n - i) s lg) ∧ lg.length ≤ i ∧ wr.ownsRow w4.heap.size 23 1 v lg.length (lg.map (Value.int .u32)) ∧ Below w4.heap.size w4 wr) (fun _ _ _ _ d _ => n - (intOf d).toNat)
      case atStart => exact ⟨0, tag.toNat % n, [], Nat.zero_le _, rfl, by rw [Int.natCast_emod, Int.toNat_of_nonneg ht0], rfl, rfl, HL, Nat.le_refl _, World.ownsRow_nil _ _ _ _, Below.refl _ _⟩
      case round =>
        obtain ⟨i, s, lg, hin, rfl, rfl, rfl, rfl, hl, hlg, hown, hb⟩ := hrel
        obtain ⟨g', hg'⟩ := (unhide hl).pos
        rw [hg'] at hl
        have hsn := (unhide hl).lt
        have hilt : i < n := by omega
        obtain ⟨hk0', hk1'⟩ := ((((unhide HS3).mono (show w3.heap.size ≤ w4.heap.size by omega)).below hb)).2 s (by omega)
        have hszr := hb.size
        have hac : wr.cell? ⟨w.heap.size, 0, none⟩ = some (.slice aoA A.length capA) := (hb.cell (p := ⟨w.heap.size, 0, none⟩) (by show w.heap.size < w4.heap.size; omega)).trans (unhide HC4)
        obtain ⟨st, hst⟩ : ∃ st, S.getD s (0, 0) = st := ⟨_, rfl⟩
        obtain ⟨t1, p1⟩ := st
        rw [hst] at hk0' hk1'
        simp only at hk0' hk1'
        have hand1 := unhide EA ((s : Int) + 1) (by omega) (by omega)
        have HG := hide hg'
        clear hg'
        by_cases h0 : p1 = 0
        · subst h0
          have hRR := (unhide hl).atFree (by rw [hst])
          simp only [Prod.mk.injEq] at hRR
          obtain ⟨rfl, rfl, rfl⟩ := hRR
          clear hst hl HL
          obtain ⟨ao5, cap5, rfl, hrow5⟩ := own_row32 hown
          have hbz : Below w4.heap.size w4 (wr.alloc (.cells #[.int .u32 t1, .int .u32 0] 28)) := hb.alloc (by omega) _
          have hr5 : Row32 (wr.alloc (.cells #[.int .u32 t1, .int .u32 0] 28)) (wr.alloc (.cells #[.int .u32 t1, .int .u32 0] 28)).heap.size ao5 R3 := (hrow5.below ((Below.refl _ wr).alloc (Nat.le_refl _) _)).mono (by simp)
          have hT1 : wr.cell? ⟨w3.heap.size + 1, 0, none⟩ = some (.slice ao4 R3.length cap4) := (hb.cell (p := ⟨w3.heap.size + 1, 0, none⟩) hsz4).trans (unhide HV4)
          have hT1s : w3.heap.size + 1 < wr.heap.size := by omega
          have HBZ := hide hbz
          have HR5 := hide hr5
          clear hbz hr5 hrow5 hown hb
          go_wp2
          go_loopw [26] (fun a wx => ∃ i : Nat, i ≤ R3.length ∧ a = .int .i64 i ∧ Below w4.heap.size w4 wx ∧ Hid (Row32 wx wx.heap.size ao5 R3)) (fun a _ => R3.length - (intOf a).toNat)
          case atStart => exact ⟨0, Nat.zero_le _, rfl, unhide HBZ, HR5⟩
          case round =>
            clear hT1 hT1s HBZ HR5 hszr hac hk0' hk1'
            obtain ⟨i, hi3, rfl, hbx, hr5⟩ := hrel
            have hT1 : wr.cell? ⟨w3.heap.size + 1, 0, none⟩ = some (.slice ao4 R3.length cap4) := (hbx.cell (p := ⟨w3.heap.size + 1, 0, none⟩) hsz4).trans (unhide HV4)
            by_cases hlt : i < R3.length
            · obtain ⟨b1, o1, hao1, hb1lt, hc1⟩ := ((unhide HO4).below hbx) i hlt
              obtain ⟨b2, o2, hao2, hb2lt, hc2⟩ := (unhide hr5) i hlt
              subst hao1
              subst hao2
              generalize R3.getD i 0 = z at hc1 hc2
              go_wp2
              go_quiet (fail)
              go_wp2
              go_roundw
              case rel => exact ⟨i + 1, by omega, by go_num, below_drewN hbx _, hr5⟩
              case measure => simp [intOf]; omega
            · have hT4 : wr.cell? ⟨w3.heap.size, 0, none⟩ = some (.slice (some ⟨w.heap.size + 1, 0, none⟩) n n) := (hbx.cell (p := ⟨w3.heap.size, 0, none⟩) (by show w3.heap.size < w4.heap.size; omega)).trans (unhide HX4)
              have hT5 : wr.cell? ⟨w3.heap.size, 1, none⟩ = some (.int .i64 m) := (hbx.cell (p := ⟨w3.heap.size, 1, none⟩) (by show w3.heap.size < w4.heap.size; omega)).trans (unhide HU4)
              have HBX := hide hbx
              clear hbx hr5
              go_wp2
              go_loopw [27] (fun a wx => ∃ i : Nat, i ≤ n ∧ a = .int .i64 i ∧ Below w4.heap.size w4 wx) (fun a _ => n - (intOf a).toNat)
              case atStart => exact ⟨0, Nat.zero_le _, rfl, unhide HBX⟩
              case round =>
                clear hT1 hT4 hT5 HBX
                obtain ⟨i, hi4, rfl, hby⟩ := hrel
                have hT4 : wr.cell? ⟨w3.heap.size, 0, none⟩ = some (.slice (some ⟨w.heap.size + 1, 0, none⟩) n n) := (hby.cell (p := ⟨w3.heap.size, 0, none⟩) (by show w3.heap.size < w4.heap.size; omega)).trans (unhide HX4)
                by_cases hlt : i < n
                · obtain ⟨hs1, hs2⟩ := (((unhide HS1).mono (show w3.heap.size ≤ w4.heap.size by omega)).below hby).2 i (by omega)
                  obtain ⟨hs3, hs4⟩ := (((unhide HS3).mono (show w3.heap.size ≤ w4.heap.size by omega)).below hby).2 i (by omega)
                  generalize S.getD i (0, 0) = z at hs1 hs2 hs3 hs4
                  obtain ⟨z1, z2⟩ := z
                  simp only at hs1 hs2 hs3 hs4
                  go_wp2
                  go_quiet (fail)
                  go_wp2
                  go_roundw
                  case rel => exact ⟨i + 1, by omega, by go_num, below_drewN hby _⟩
                  case measure => simp [intOf]; omega
                · go_wp2
                  go_ret
                  exact ⟨rfl, hb4w.trans (hby.mono hb4w.size)⟩
        · have hz0' : (p1 == 0) = false := beq_eq_false_iff_ne.2 h0
          by_cases h1 : t1 = tag
          · subst h1
            go_wp2_with (at_builtin; refine wpList_append_own _ rfl (.tmp 91) (.tmp 94) 24 rfl w4.heap.size 23 iA (.int .u32 0) 1 4 Yba.underlying24 hiA hzA0 hzA1 hzA2 rfl (by decide) _ lg.length _ rfl ((hown.alloc _).alloc _) ⟨wr.heap.size + 1, 0, none⟩ 1 1 [.int .u32 p1] rfl rfl ?hcn ?h1c ?c3 ?c4 ?c5 ?_)
            case hcn => exact cell_new2 _ _ _ _ _
            case h1c => intro u hu; simp at hu; subst hu; rfl
            case c3 => unfold maxLen; omega
            case c4 => omega
            case c5 => simp; omega
            intro v5 w5 hown5 hgrow5 _
            obtain ⟨g5, cap5, hv5, hg5⟩ := own_shape hown5
            have hobk : ∀ kk, u22.ownBlock = some kk → w4.heap.size ≤ kk ∧ kk < wr.heap.size := fun kk hkk => hown.lt kk hkk
            have hgs := hgrow5.size
            simp only [World.size_alloc] at hgs
            have hb5 : Below w4.heap.size w4 w5 := ((hb.alloc (by omega) _).alloc (by simp; omega) _).grown hgrow5 (by simp; omega) (fun kk hkk => (hobk kk hkk).1)
            have hbox0 : w5.cell? ⟨wr.heap.size, 1, none⟩ = some (.int .u32 p1) := by
              rw [World.cell?_of_block (a := ⟨wr.heap.size, 1, none⟩) (hgrow5.block wr.heap.size (by simp; omega) (fun h => by have := (hobk _ h.symm).2; omega))]
              simp
            have hac5 : w5.cell? ⟨w.heap.size, 0, none⟩ = some (.slice aoA A.length capA) := (hb5.cell (p := ⟨w.heap.size, 0, none⟩) (by show w.heap.size < w4.heap.size; omega)).trans (unhide HC4)
            have cI := in_any w.heap.size aoA capA A p1 w5 hmA ((unhide HA4).below (hb5.mono (show w.heap.size ≤ w4.heap.size by omega)))
            have hown6 : w5.ownsRow w4.heap.size 23 1 (.slice (some ⟨g5, 0, none⟩) (lg.length + 1) cap5) (lg ++ [p1]).length ((lg ++ [p1]).map (Value.int .u32)) := by
              rw [← hv5]; simpa using hown5
            rw [hv5]
            clear hgrow5 hobk hown5 hown hv5 hb
            cases hinA : isIn A p1 with
            | false =>
              have hL2 := (unhide hl).atMiss (by rw [hst]; exact h0) (by rw [hst]) (by rw [hst]; exact hinA)
              rw [hst] at hL2
              rw [hinA] at cI
              have HL2 := hide hL2
              have HCI := hide cI
              have HO6 := hide hown6
              clear hL2 hst cI hown6 hinA
              go_wp2_with fail
              refine (unhide HCI).mono ?_
              rintro e w6 ⟨rfl, rfl⟩
              clear HCI
              go_wp2
              go_roundw
              case rel => exact ⟨i + 1, (s + 1) % n, lg ++ [p1], by omega, by go_num, by rw [Int.natCast_emod]; rfl, rfl, rfl, by rw [show n - (i + 1) = g' by have := unhide HG; omega]; exact HL2, by simp; omega, by simpa using unhide HO6, hb5⟩
              case measure => simp [intOf]; omega
            | true =>
              have hRR := (unhide hl).atHit (by rw [hst]; exact h0) (by rw [hst]) (by rw [hst]; exact hinA)
              rw [hst] at hRR
              simp only [Prod.mk.injEq] at hRR
              rw [hinA] at cI
              have HCI := hide cI
              obtain ⟨rfl, rfl, hR3⟩ := hRR
              rw [← hR3] at hown6
              have hLR : R3.length = lg.length + 1 := by rw [hR3]; simp
              rw [← hLR] at hown6 ⊢
              obtain ⟨ao5, cap6, hvv, hrow5⟩ := own_row32 hown6
              simp only [Value.slice.injEq, true_and] at hvv
              obtain ⟨rfl, rfl⟩ := hvv
              have HR3 := hide hR3
              have hR3le : R3.length ≤ n := by omega
              have hT1 : w5.cell? ⟨w3.heap.size + 1, 0, none⟩ = some (.slice ao4 R3.length cap4) := (hb5.cell (p := ⟨w3.heap.size + 1, 0, none⟩) hsz4).trans (unhide HV4)
              have HBZ := hide hb5
              have HR5 := hide hrow5
              clear hb5 hrow5
              clear hst cI hinA hown6 hl HL hR3 hLR
              go_wp2_with fail
              refine (unhide HCI).mono ?_
              rintro e w6 ⟨rfl, rfl⟩
              clear HCI
              go_wp2
              go_quiet (fail)
              go_wp2
              go_loopw [26] (fun a wx => ∃ i : Nat, i ≤ R3.length ∧ a = .int .i64 i ∧ Below w4.heap.size w4 wx ∧ Hid (Row32 wx wx.heap.size (some ⟨g5, 0, none⟩) R3)) (fun a _ => R3.length - (intOf a).toNat)
              case atStart => exact ⟨0, Nat.zero_le _, rfl, below_drewN (unhide HBZ) _, HR5⟩
              case round =>
                clear hT1 HBZ HR5 hszr hac hk0' hk1' hac5 hbox0
                obtain ⟨i, hi3, rfl, hbx, hr5⟩ := hrel
                have hT1 : wr.cell? ⟨w3.heap.size + 1, 0, none⟩ = some (.slice ao4 R3.length cap4) := (hbx.cell (p := ⟨w3.heap.size + 1, 0, none⟩) hsz4).trans (unhide HV4)
                by_cases hlt : i < R3.length
                · obtain ⟨b1, o1, hao1, hb1lt, hc1⟩ := ((unhide HO4).below hbx) i hlt
                  obtain ⟨b2, o2, hao2, hb2lt, hc2⟩ := (unhide hr5) i hlt
                  subst hao1
                  obtain ⟨rfl, rfl⟩ : g5 = b2 ∧ 0 = o2 := by simpa using hao2
                  rw [Nat.zero_add] at hc2
                  clear hao2
                  generalize R3.getD i 0 = z at hc1 hc2
                  go_wp2
                  go_quiet (fail)
                  go_wp2
                  go_roundw
                  case rel => exact ⟨i + 1, by omega, by go_num, below_drewN hbx _, hr5⟩
                  case measure => simp [intOf]; omega
                · have hT4 : wr.cell? ⟨w3.heap.size, 0, none⟩ = some (.slice (some ⟨w.heap.size + 1, 0, none⟩) n n) := (hbx.cell (p := ⟨w3.heap.size, 0, none⟩) (by show w3.heap.size < w4.heap.size; omega)).trans (unhide HX4)
                  have hT5 : wr.cell? ⟨w3.heap.size, 1, none⟩ = some (.int .i64 m) := (hbx.cell (p := ⟨w3.heap.size, 1, none⟩) (by show w3.heap.size < w4.heap.size; omega)).trans (unhide HU4)
                  have HBX := hide hbx
                  clear hbx hr5
                  go_wp2
                  go_loopw [27] (fun a wx => ∃ i : Nat, i ≤ n ∧ a = .int .i64 i ∧ Below w4.heap.size w4 wx) (fun a _ => n - (intOf a).toNat)
                  case atStart => exact ⟨0, Nat.zero_le _, rfl, unhide HBX⟩
                  case round =>
                    clear hT1 hT4 hT5 HBX
                    obtain ⟨i, hi4, rfl, hby⟩ := hrel
                    have hT4 : wr.cell? ⟨w3.heap.size, 0, none⟩ = some (.slice (some ⟨w.heap.size + 1, 0, none⟩) n n) := (hby.cell (p := ⟨w3.heap.size, 0, none⟩) (by show w3.heap.size < w4.heap.size; omega)).trans (unhide HX4)
                    by_cases hlt : i < n
                    · obtain ⟨hs1, hs2⟩ := (((unhide HS1).mono (show w3.heap.size ≤ w4.heap.size by omega)).below hby).2 i (by omega)
                      obtain ⟨hs3, hs4⟩ := (((unhide HS3).mono (show w3.heap.size ≤ w4.heap.size by omega)).below hby).2 i (by omega)
                      generalize S.getD i (0, 0) = z at hs1 hs2 hs3 hs4
                      obtain ⟨z1, z2⟩ := z
                      simp only at hs1 hs2 hs3 hs4
                      go_wp2
                      go_quiet (fail)
                      go_wp2
                      go_roundw
                      case rel => exact ⟨i + 1, by omega, by go_num, below_drewN hby _⟩
                      case measure => simp [intOf]; omega
                    · go_wp2
                      go_ret
                      exact ⟨rfl, hb4w.trans (hby.mono hb4w.size)⟩
          · have hz1' : (t1 == tag) = false := beq_eq_false_iff_ne.2 h1
            have hL2 := (unhide hl).atOther (by rw [hst]; exact h0) (by rw [hst]; exact h1)
            have HL2 := hide hL2
            clear hL2 hst
            go_wp2
            go_roundw
            case rel => exact ⟨i + 1, (s + 1) % n, lg, by omega, by go_num, by rw [Int.natCast_emod]; rfl, rfl, rfl, by rw [show n - (i + 1) = g' by have := unhide HG; omega]; exact HL2, by omega, hown.alloc _, hb.alloc (by omega) _⟩
            case measure => simp [intOf]; omega

end Go.Proofs.Ybulkblke
