/-
  LawS3104BAllRestored: the walk.
-/
import Derived.Test.YbulkblgkGreatDoubts
import Derived.Test.YbulkblgkGreatPart
import Derived.Test.YbulkblgkGreatPlain
import Derived.WalkLawsBesides
namespace Go.Proofs.YbulkblgkGreat
open Go.RowKit Go.Maps Go.Sort Go.Shelf Go.Lib

def Hid (p : Prop) : Prop := p
theorem hide {p : Prop} (h : p) : Hid p := h
theorem unhide {p : Prop} (h : Hid p) : p := h

theorem law_long (ao : Option Addr) (n cap : Nat) (w : World) (hl : 1024 < n) (hm : n ≤ maxLen) :
    Calls Ybaz.prog 3 #[.slice ao n cap] w fun e w' => e = .returned (.bool true) ∧ Below w.heap.size w w' := by
  unfold maxLen at hm
  go_enter Ybaz.func3, Ybaz.ntmps3
  go_wp2
  · go_ret
    exact ⟨rfl, Below.refl _ _⟩

/-- Behind q restored transactions: the map, the server, the participant. -/
def Restored (w : World) (tb : List (List UInt8)) (q : Nat) (wr : World) : Prop :=
  (∃ S : Nat → Bool, wr.ownsMap Ybaz.prog 9 (heldR S) w.heap.size q (setOf (.lit (.bool true)) ((tb.take q).map Lit.string)) ∧ ∀ c, S c = true → wr.cell? ⟨c, 0, none⟩ = some (.bool true) ∧ c < wr.heap.size ∧ w.heap.size + 1 + 1 < c) ∧
  wr.cell? ⟨w.heap.size + 1 + 1, 13, none⟩ = some (.int .i32 0) ∧ wr.frozen? ⟨w.heap.size + 1 + 1, 13, none⟩ = false ∧
  wr.cell? ⟨w.heap.size + 1 + 1, 16, none⟩ = some (.pointer (some ⟨w.heap.size + 1, 0, none⟩)) ∧ wr.cell? ⟨w.heap.size + 1, 1, none⟩ = some (.map (some w.heap.size)) ∧
  Below w.heap.size w wr ∧ w.heap.size + 1 + 1 < wr.heap.size

theorem Restored.step {w wr w' : World} {tb : List (List UInt8)} {q c : Nat} {S : Nat → Bool} (h : Restored w tb q wr) (hq : q < tb.length)
    (hS : ∀ c, S c = true → wr.cell? ⟨c, 0, none⟩ = some (.bool true) ∧ c < wr.heap.size ∧ w.heap.size + 1 + 1 < c)
    (hc1 : wr.heap.size ≤ c) (hc2 : c < w'.heap.size) (hcell : w'.cell? ⟨c, 0, none⟩ = some (.bool true))
    (hown : w'.ownsMap Ybaz.prog 9 (heldR (fun x => S x || x == c)) w.heap.size (q + 1) ((setOf (.lit (.bool true)) ((tb.take q).map Lit.string)).put (.string tb[q]) (.lit (.bool true)))) (hg : wr.grownBy w' (some w.heap.size)) : Restored w tb (q + 1) w' := by
  obtain ⟨_, h1, h2, h3, h4, h5, h6⟩ := h
  have hb : ∀ k, k < wr.heap.size → w.heap.size < k → w'.heap[k]? = wr.heap[k]? := fun k hk hne => hg.block k hk (fun e => by simp at e; omega)
  refine ⟨⟨fun x => S x || x == c, ?_, ?_⟩, ?_, ?_, ?_, ?_, ?_, ?_⟩
  · rw [List.take_succ_eq_append_getElem hq, List.map_append, List.map_singleton, setOf_snoc]; exact hown
  · intro x hx'
    have hx2 : S x = true ∨ x = c := by simpa using hx'
    rcases hx2 with hx | rfl
    · obtain ⟨a1, a2, a3⟩ := hS x hx
      exact ⟨(World.cell?_of_block (a := ⟨x, 0, none⟩) (hb x a2 (by omega))).trans a1, Nat.lt_of_lt_of_le a2 hg.size, a3⟩
    · exact ⟨hcell, hc2, by omega⟩
  · exact (World.cell?_of_block (a := ⟨w.heap.size + 1 + 1, 13, none⟩) (hb (w.heap.size + 1 + 1) h6 (by omega))).trans h1
  · exact (World.frozen?_of_block (a := ⟨w.heap.size + 1 + 1, 13, none⟩) (hb (w.heap.size + 1 + 1) h6 (by omega))).trans h2
  · exact (World.cell?_of_block (a := ⟨w.heap.size + 1 + 1, 16, none⟩) (hb (w.heap.size + 1 + 1) h6 (by omega))).trans h3
  · exact (World.cell?_of_block (a := ⟨w.heap.size + 1, 1, none⟩) (hb (w.heap.size + 1) (by omega) (by omega))).trans h4
  · exact h5.grown hg h5.size (fun k e => by cases e; exact Nat.le_refl _)
  · exact Nat.lt_of_lt_of_le h6 hg.size

theorem getD_mem {tids : List ByteArray} {q : Nat} (hq : q < tids.length) : tids.getD q ByteArray.empty ∈ tids := by
  rw [List.getD_eq_getElem?_getD, List.getElem?_eq_getElem hq]; exact List.getElem_mem hq

theorem info9 : (Ybaz.prog.info? 9).map (fun i => (i.zero, i.size, i.bytes)) = some (some (.string ⟨#[]⟩), 1, 16) := by kernel_rfl

theorem mem_restored (tb : List (List UInt8)) (x : List UInt8) : has (setOf (.lit (.bool true) : DataW Unit) ((tb.take tb.length).map Lit.string)) (.string x) = true ↔ x ∈ tb := by
  rw [has_setOf _ _ _ (fun y hy => by obtain ⟨z, _, rfl⟩ := List.mem_map.1 hy; simp [WideAt.IsKeyLit]), List.take_length, List.any_eq_true]
  constructor
  · rintro ⟨y, hy, h⟩
    obtain ⟨z, hz, rfl⟩ := List.mem_map.1 hy
    have : z = x := by simpa [Lit.sameKey] using h
    subst this; exact hz
  · intro h
    exact ⟨.string x, List.mem_map.2 ⟨x, h, rfl⟩, by simp [Lit.sameKey]⟩

theorem rowOf_at (ks : List (List UInt8)) : ∀ q, q < ks.length → (rowOf ks)[q * 2]? = some (encStr (ks.getD q [])) ∧ (rowOf ks)[q * 2 + 1]? = some prep := by
  induction ks with
  | nil => intro q hq; simp at hq
  | cons k ks ih =>
    intro q hq
    have hr : rowOf (k :: ks) = [encStr k, prep] ++ rowOf ks := by simp [rowOf]
    cases q with
    | zero => simp [rowOf]
    | succ q =>
      have := ih q (by simpa using hq)
      rw [hr]
      refine ⟨?_, ?_⟩
      · rw [List.getElem?_append_right (by simp; omega)]
        simpa [show (q + 1) * 2 - 2 = q * 2 by omega] using this.1
      · rw [List.getElem?_append_right (by simp; omega)]
        simpa [show (q + 1) * 2 + 1 - 2 = q * 2 + 1 by omega] using this.2

theorem strs_of_ownsRow {w : World} {base : Nat} {v : Value} {ks : List (List UInt8)} (h : w.ownsRow base 9 1 v ks.length (ks.map encStr)) : ∃ a c, v = .slice a ks.length c ∧ Strs w base a c ks := by
  have h' := h
  obtain ⟨_, (⟨rfl, h0⟩ | ⟨g, cap, cur, rfl, _⟩)⟩ := h
  · have : ks = [] := List.length_eq_zero_iff.1 h0
    subst this
    exact ⟨none, 0, rfl, by simp, .inl rfl⟩
  · obtain ⟨_, h1, h2, h3, h4⟩ := holds_of_ownsRow h'
    exact ⟨_, cap, rfl, h1, .inr ⟨g, rfl, h2, h3, h4⟩⟩

theorem take_succ_map (ks : List (List UInt8)) (q : Nat) (hq : q < ks.length) : (ks.map encStr).take (q + 1) = (ks.map encStr).take q ++ [encStr (ks.getD q [])] := by
  rw [List.take_succ_eq_append_getElem (by simpa using hq), List.getElem_map, List.getD_eq_getElem?_getD, List.getElem?_eq_getElem hq]
  rfl

theorem ownBlock_ge {w : World} {base size n : Nat} {e : TypeId} {v : Value} {xs : List Value} (h : w.ownsRow base e size v n xs) : ∀ k, v.ownBlock = some k → base ≤ k := by
  intro k hk
  rcases h.2 with ⟨rfl, _⟩ | ⟨g, cap, cur, rfl, hb, _⟩
  · simp [Value.ownBlock] at hk
  · obtain rfl : g = k := by simpa [Value.ownBlock] using hk
    exact hb

set_option maxRecDepth 100000 in
set_option maxHeartbeats 4000000 in
theorem law_any (ao : Option Addr) (cap : Nat) (tids : List ByteArray) (w : World) (hl : tids.length ≤ 1024) (harg : ArgStrs w w.heap.size ao tids) (hsz : ∀ s ∈ tids, s.size ≤ maxLen) :
    Calls Ybaz.prog 3 #[.slice ao tids.length cap] w fun e w' => e = .returned (.bool true) ∧ Below w.heap.size w w' := by
  have HA := hide harg
  have HS := hide hsz
  clear harg hsz
  go_enter Ybaz.func3, Ybaz.ntmps3
  go_wp2_with fail
  refine (newParticipant_calls _ _).mono ?_
  rintro e w' ⟨rfl, rfl⟩
  go_wp2
  obtain ⟨W0, hW0⟩ : ∃ W0, (((w.alloc (Obj.map #[] 0)).alloc (Obj.cells #[Value.string { data := #[115] }, Value.map (some w.heap.size)] 87)).alloc
      (Obj.cells
        #[Value.string { data := #[] }, Value.pointer none, Value.pointer none, Value.int IntKind.i64 0,
          Value.int IntKind.i32 0, Value.int IntKind.u32 0, Value.chan none, Value.pointer none, Value.pointer none,
          Value.pointer none, Value.map none, Value.map none, Value.pointer none, Value.int IntKind.i32 0,
          Value.int IntKind.u32 0, Value.pointer none, Value.pointer (some { block := w.heap.size + 1, off := 0 }),
          Value.map none, Value.nilIface, Value.nilFunc, Value.chan none, Value.int IntKind.u64 0,
          Value.int IntKind.u32 0] 66)) = W0 := ⟨_, rfl⟩
  have hR0 : Restored w (bytesOf tids) 0 W0 := by
    have hn : W0.heap[w.heap.size + 1 + 1]? = some (.cells #[Value.string { data := #[] }, Value.pointer none, Value.pointer none, Value.int IntKind.i64 0,
          Value.int IntKind.i32 0, Value.int IntKind.u32 0, Value.chan none, Value.pointer none, Value.pointer none,
          Value.pointer none, Value.map none, Value.map none, Value.pointer none, Value.int IntKind.i32 0,
          Value.int IntKind.u32 0, Value.pointer none, Value.pointer (some { block := w.heap.size + 1, off := 0 }),
          Value.map none, Value.nilIface, Value.nilFunc, Value.chan none, Value.int IntKind.u64 0,
          Value.int IntKind.u32 0] 66 (0, 0)) := by
      rw [← hW0]
      have := World.alloc_heap_new ((w.alloc (Obj.map #[] 0)).alloc (Obj.cells #[Value.string { data := #[115] }, Value.map (some w.heap.size)] 87)) (.cells #[Value.string { data := #[] }, Value.pointer none, Value.pointer none, Value.int IntKind.i64 0,
          Value.int IntKind.i32 0, Value.int IntKind.u32 0, Value.chan none, Value.pointer none, Value.pointer none,
          Value.pointer none, Value.map none, Value.map none, Value.pointer none, Value.int IntKind.i32 0,
          Value.int IntKind.u32 0, Value.pointer none, Value.pointer (some { block := w.heap.size + 1, off := 0 }),
          Value.map none, Value.nilIface, Value.nilFunc, Value.chan none, Value.int IntKind.u64 0,
          Value.int IntKind.u32 0] 66)
      simpa only [World.size_alloc] using this
    have hn2 : W0.heap[w.heap.size + 1]? = some (.cells #[Value.string { data := #[115] }, Value.map (some w.heap.size)] 87 (0, 0)) := by
      rw [← hW0]
      refine (Below.heap_alloc _ _ _ (by simp)).trans ?_
      have := World.alloc_heap_new (w.alloc (Obj.map #[] 0)) (Obj.cells #[Value.string { data := #[115] }, Value.map (some w.heap.size)] 87)
      simpa only [World.size_alloc] using this
    refine ⟨⟨fun _ => false, ?_, fun _ h => by cases h⟩, ?_, ?_, ?_, ?_, ?_, ?_⟩
    · rw [← hW0]; exact ((World.ownsMap_made w Ybaz.prog 9 _).alloc _).alloc _
    · simp [World.cell?, hn]
    · simp [World.frozen?, hn]
    · simp [World.cell?, hn]
    · simp [World.cell?, hn2]
    · rw [← hW0]; exact (((Below.refl _ w).alloc (Nat.le_refl _) _).alloc (by simp) _).alloc (by simp; omega) _
    · rw [← hW0]; simp
  rw [hW0]
  clear hW0
  go_loopw [19] (fun i wr => ∃ q : Nat, q ≤ tids.length ∧ i = .int .i64 q ∧ Restored w (bytesOf tids) q wr) (fun i _ => tids.length - (intOf i).toNat)
  case atStart => exact ⟨0, Nat.zero_le _, rfl, hR0⟩
  case round =>
    clear hR0
    obtain ⟨q, hq, rfl, hR⟩ := hrel
    by_cases hlt : q < tids.length
    · have HR := hide hR
      obtain ⟨⟨S, hown, hS⟩, h1, h2, h3, h4, h5, h6⟩ := hR
      have HA' := (unhide HA).below h5
      rcases HA' with h0 | ⟨b, off, hao, hbl, hc⟩
      · rw [h0] at hlt; exact absurd hlt (by simp)
      have hcq := hc q hlt
      have hsq := unhide HS _ (getD_mem hlt)
      obtain ⟨s, hs⟩ : ∃ s, tids.getD q ByteArray.empty = s := ⟨_, rfl⟩
      rw [hs] at hcq hsq
      have HQ := hide hs
      clear hs
      subst hao
      have HO := hide hown
      have HSS := hide hS
      clear hown hS hc h1 h2 HA
      go_wp2_with fail
      refine (restore_calls (w.heap.size + 1) w.heap.size q _ S s wr hsq (by omega) h4 (by omega) (unhide HO)).mono ?_
      rintro e w' ⟨c, hc1, hc2, rfl, hcell, hown', hg⟩
      have hR' : Restored w (bytesOf tids) (q + 1) w' := Restored.step (unhide HR) (by simpa using hlt) (unhide HSS) hc1 hc2 hcell (by
        have e1 : (bytesOf tids)[q]'(by simpa using hlt) = (tids.getD q ByteArray.empty).data.toList := by simp [bytesOf, List.getD_eq_getElem?_getD, hlt]
        rw [e1, unhide HQ]; exact hown') hg
      clear hown' hg hcell
      go_wp2
      go_roundw
      case rel => exact ⟨q + 1, by omega, by simp, hR'⟩
      case measure => simp [intOf]; omega
    · obtain rfl : q = tids.length := by omega
      clear hlt hq
      go_wp2_with fail
      obtain ⟨⟨S, hown, hS⟩, h1, h2, h3, h4, h5, h6⟩ := hR
      have hsz0 := size_le_of_ownsMap hown
      refine (doubts_calls w.heap.size (w.heap.size + 1 + 1) (w.heap.size + 1) w.heap.size _ _ S wr (by omega) h6 h1 h2 h3 (by omega) (by omega) h4 hown (by omega) (fun c hc => ⟨(hS c hc).1, (hS c hc).2.1, by have := (hS c hc).2.2; omega⟩) (by omega)).mono ?_
      rintro e w5 ⟨ks, v, hnd, hmem, hkl, rfl, hvn, hrow, hB5⟩
      have hmem' : ∀ x, x ∈ ks ↔ x ∈ bytesOf tids := fun x => (hmem x).trans (by
        have := mem_restored (bytesOf tids) x
        simpa [bytesOf] using this)
      have hPL := plain_law ks (bytesOf tids) hnd hmem'
      obtain ⟨hrl, (⟨h, _⟩ | ⟨gg, cg, cur, rfl, hgg, hgb, hrest⟩)⟩ := hrow
      · exact absurd h hvn
      have hrow : w5.ownsRow wr.heap.size 82 2 (.slice (some ⟨gg, 0, none⟩) ks.length cg) ks.length (rowOf ks) := ⟨hrl, .inr ⟨gg, cg, cur, rfl, hgg, hgb, hrest⟩⟩
      have hggl : gg < w5.heap.size := (Array.getElem?_eq_some_iff.1 hgb).1
      have hB : Below w.heap.size w w5 := h5.trans hB5
      have HG : Hid (∀ q, q < ks.length → w5.cell? ⟨gg, q * 2, none⟩ = some (encStr (ks.getD q [])) ∧ w5.cell? ⟨gg, q * 2 + 1, none⟩ = some prep) := fun q hq => by
        have := rowOf_at ks q hq
        exact ⟨(hrow.cellAt (q * 2) (by omega)).trans this.1, (hrow.cellAt (q * 2 + 1) (by omega)).trans this.2⟩
      have hwsz := hB.size
      have HPL := hide hPL
      have hA5 := (unhide HA).below hB
      clear hmem hmem' hPL hrow hgb hrest hrl hvn hown hS h1 h2 h3 h4 h5 h6 hsz0 hnd hB5 hgg
      have HA5 := hide hA5
      clear hA5 HA HS
      have hnil := fun (w : World) => Lib.run_eql_slice_nil (P := Ybaz.prog) w 76 82 (some ⟨gg, 0, none⟩) ks.length cg 0 0 Ybaz.underlying76
      go_wp2_with fail
      clear hnil
      refine (clone_strs w.heap.size cap ao tids w5 hl (unhide HA5)).mono ?_
      rintro e w6 ⟨a1, c1, rfl, hst1, hB6⟩
      have HST := hide hst1
      clear hst1
      go_wp2_with fail
      have hbl : (bytesOf tids).length = tids.length := by simp
      have c8 := sort_strs w5.heap.size c1 a1 (bytesOf tids) w6 (by omega) (unhide HST)
      rw [hbl] at c8
      refine c8.mono ?_
      rintro e w7 ⟨rfl, hst2, row7, hg7, hr7⟩
      clear c8
      have hB7 : Below w5.heap.size w5 w7 := hB6.grown hg7 hB6.size hr7
      have hsl : ((bytesOf tids).mergeSort leB).length = tids.length := by simp
      have HST2 := hide hst2
      clear hst2 HST hg7 hr7 hB6
      go_wp2_with fail
      have c9 := compact_strs w5.heap.size c1 a1 ((bytesOf tids).mergeSort leB) w7 (by omega) (unhide HST2)
      rw [hsl] at c9
      refine c9.mono ?_
      clear c9
      have hcl : (Lib.compact ((bytesOf tids).mergeSort leB)).length = ks.length := by rw [← unhide HPL]; simp
      rw [← unhide HPL] at hcl ⊢
      rintro e w8 ⟨rfl, hst3, row8, hg8, hr8⟩
      rw [hcl]
      have hB8 : Below w5.heap.size w5 w8 := hB7.grown hg8 hB7.size hr8
      have HST3 := hide hst3
      have HBL := hide hbl
      have HSL := hide hsl
      have HCL := hide hcl
      clear hst3 HST2 hg8 hr8 hB7 hbl hsl hcl
      obtain ⟨i0, hi, hz0, hz1, hz2⟩ := info_parts info9
      go_wp2_with (first
        | (at_make; refine wpList_make_own _ rfl _ _ 22 rfl w8.heap.size 9 i0 _ 1 Ybaz.underlying22 hi hz0 hz1 _ _ _ ks.length rfl rfl rfl (by rw [hz2]; omega) (by unfold maxLen; omega) (Nat.le_refl _) ?_; intro w9 hrow9 hg9)
        | fail)
      go_wp2
      have hB9 : Below w8.heap.size w8 w9 := (Below.refl _ _).grown hg9 (Nat.le_refl _) (fun k e => by cases e)
      clear hg9
      go_loopw [8, 51] (fun ids i wr => ∃ q : Nat, q ≤ ks.length ∧ i = .int .i64 q ∧ wr.ownsRow w8.heap.size 9 1 ids q ((ks.map encStr).take q) ∧ Below w8.heap.size w8 wr) (fun _ i _ => ks.length - (intOf i).toNat)
      case atStart => exact ⟨0, Nat.zero_le _, rfl, by simpa using hrow9, hB9⟩
      case round =>
        clear hrow9 hB9
        obtain ⟨q, hq, rfl, hrow, hBr⟩ := hrel
        by_cases hlt : q < ks.length
        · have hBB : Below w5.heap.size w5 wr := hB8.trans (hBr.mono hB8.size)
          obtain ⟨hc0, hc1⟩ := unhide HG q hlt
          have hd0 := (hBB.cell (p := ⟨gg, q * 2, none⟩) hggl).trans hc0
          have hd1 := (hBB.cell (p := ⟨gg, q * 2 + 1, none⟩) hggl).trans hc1
          have htk := take_succ_map ks q hlt
          obtain ⟨s, hs⟩ : ∃ s, ks.getD q [] = s := ⟨_, rfl⟩
          rw [hs] at hd0 htk
          have HT := hide htk
          have HR := hide hrow
          have hszr := hBr.size
          clear hc0 hc1 hs htk HG HPL HST3 hBB hB8 hB
          go_wp2_with (at_builtin; refine wpList_append_own _ rfl (.tmp 58) (.tmp 61) 22 rfl w8.heap.size 9 i0 (.string ⟨#[]⟩) 1 16 Ybaz.underlying22 hi hz0 hz1 hz2 rfl (by decide) _ q _ rfl (((unhide HR).alloc _).alloc _) ⟨wr.heap.size + 1, 0, none⟩ 1 1 [encStr s] rfl rfl ?hcn ?h1c ?c3 ?c4 ?c5 ?_)
          case hcn => have := cell_one_new (wr.alloc (Obj.cells #[Value.string { data := s.toArray }, Value.string { data := #[112, 114, 101, 112, 97, 114, 101, 100] }] 82)) (encStr s) 9; rwa [World.size_alloc] at this
          case h1c => simp [Value.oneCell']
          case c3 => unfold maxLen; omega
          case c4 => omega
          case c5 => simp only [World.size_alloc]; omega
          intro v' w' hown' hgrow _
          obtain ⟨g', cap', rfl⟩ := ownsRow_succ hown'
          have hB' : Below w8.heap.size w8 w' := ((hBr.alloc hszr _).alloc (by simp only [World.size_alloc]; omega) _).grown hgrow (by simp only [World.size_alloc]; omega) (ownBlock_ge (unhide HR))
          have HO := hide hown'
          clear hown' hgrow HR hBr
          go_wp2
          go_roundw
          case rel => exact ⟨q + 1, by omega, by simp, by rw [unhide HT]; exact unhide HO, hB'⟩
          case measure => simp [intOf]; omega
        · obtain rfl : q = ks.length := by omega
          have hrow' : wr.ownsRow w8.heap.size 9 1 u8 ks.length (ks.map encStr) := by
            have e : (ks.map encStr).take ks.length = ks.map encStr := List.take_of_length_le (by simp)
            rw [← e]; exact hrow
          obtain ⟨a2, c2, rfl, hst⟩ := strs_of_ownsRow hrow'
          clear hrow hrow' hlt hq HG
          have HS2 := hide hst
          clear hst
          go_wp2_with fail
          refine (sort_strs w8.heap.size c2 a2 ks wr hkl (unhide HS2)).mono ?_
          rintro e w10 ⟨rfl, hst4, row10, hg10, hr10⟩
          have hB10 : Below w8.heap.size w8 w10 := hBr.grown hg10 hBr.size hr10
          have hwant := (unhide HST3).kept (row := none) (w' := w10) ⟨hB10.os, hB10.tape, hB10.output, hB10.size, fun k hk _ => hB10.block k hk⟩ (fun _ _ _ => by simp)
          have c10 := equal_strs w8.heap.size w5.heap.size c2 c1 a2 a1 (ks.mergeSort leB) w10 (by simpa using hkl) hst4 hwant
          rw [List.length_mergeSort] at c10
          have hBend : Below w.heap.size w w10 := (hB.trans (hB8.mono hwsz)).trans (hB10.mono (Nat.le_trans hwsz hB8.size))
          have HC := hide c10
          clear c10 hst4 hwant hg10 hr10 HS2
          go_wp2_with fail
          refine (unhide HC).mono ?_
          rintro e w11 ⟨rfl, qn, rfl⟩
          go_wp2
          go_ret
          exact ⟨rfl, below_drewN hBend qn⟩
end Go.Proofs.YbulkblgkGreat
