/-
  (*Server).doubts: lock, a range over maps.All, append, deferred unlock.
-/
import Derived.Test.YbulkblgkGreatIter
import Derived.Conc.MuLone
import Derived.Maps.AppendAt
import Derived.Maps.OwnIn
import Derived.WalkSmall
namespace Go.Proofs.YbulkblgkGreat
open Go.RowKit Go.Maps Go.Sort Go.Shelf Go.MuLone
attribute [local go_sem] Oper.semAt_some

theorem info82 : (Ybaz.prog.info? 82).map (fun i => (i.zero, i.size, i.bytes)) = some (some (.agg #[.string ⟨#[]⟩, .string ⟨#[]⟩]), 2, 32) := by kernel_rfl

/-- (*sync.Mutex).Unlock, entered as a deferred call, at the wide fence. -/
theorem unlock_in (n : Nat) (a : Addr) (u : FrameMode) (w : World) (hc : w.cell? a = some (.int .i32 1)) (hz : w.frozen? a = false) :
    CallsDIn Fence.wide n Ybaz.prog 12 #[.pointer (some a)] u w fun e u' w' => u' = u ∧ (e = .returned (.tuple #[]) ∧ w' = w.setCell a (.int .i32 0)) := by
  refine callsDIn_of_wp Ybaz.func12 rfl trivial ?_
  simp only [Ybaz.ntmps12, List.size_toArray, List.length_cons, List.length_nil, Nat.reduceAdd, Nat.reduceSub, Array.replicate_succ, Array.replicate_zero, List.push_toArray, List.append_toArray, List.nil_append, List.cons_append]
  gi_wp2_with (first | (gi_at_call 18; done))
  refine ⟨trivial, fun h => by simp [Fence.wide] at h, ?_⟩
  refine (callsIn_wide.2 (iunlock_held Ybaz.muLib a w hc hz)).mono ?_
  rintro e w' ⟨rfl, rfl⟩
  gi_wp2
  go_end0
  exact ⟨rfl, rfl⟩

/-- What a slice owns from base on it owns behind a store below base. -/
theorem ownsRow_setCell_below {W : World} {base : Nat} {e : TypeId} {size : Nat} {v : Value} {k : Nat} {xs : List Value} (h : W.ownsRow base e size v k xs) (p : Addr) (hp : p.block < base) (u : Value) : (W.setCell p u).ownsRow base e size v k xs := by
  obtain ⟨hl, (h | ⟨g, cap, cur, hv, hg, hgb, hrest⟩)⟩ := h
  · exact ⟨hl, .inl h⟩
  · exact ⟨hl, .inr ⟨g, cap, cur, hv, hg, (Below.heap_setCell _ _ _ g (by omega)).trans hgb, hrest⟩⟩

abbrev prep : Value := .string { data := #[112, 114, 101, 112, 97, 114, 101, 100] }
/-- The cells of the doubts of these transactions, in this order. -/
def rowOf (ks : List (List UInt8)) : List Value := ks.flatMap (fun k => [encStr k, prep])
theorem rowOf_snoc (ks : List (List UInt8)) (k : List UInt8) : rowOf (ks ++ [k]) = rowOf ks ++ [encStr k, prep] := by simp [rowOf]
theorem keysOf_snoc {S : Nat → Bool} (ps : List (Pair S)) (p : Pair S) : keysOf (ps ++ [p]) = keysOf ps ++ [p.1.1] := by simp [keysOf]

set_option maxRecDepth 100000 in
set_option maxHeartbeats 2000000 in
theorem doubts_calls (B bs bp b nn : Nat) (D0 : DataW Unit) (S : Nat → Bool) (w : World) (hBs : B ≤ bs) (hbs : bs < w.heap.size)
    (hmu : w.cell? ⟨bs, 13, none⟩ = some (.int .i32 0)) (hmf : w.frozen? ⟨bs, 13, none⟩ = false)
    (hpart : w.cell? ⟨bs, 16, none⟩ = some (.pointer (some ⟨bp, 0, none⟩))) (hbp : bp < w.heap.size) (hpne : bp ≠ bs) (hmap : w.cell? ⟨bp, 1, none⟩ = some (.map (some b)))
    (hown : w.ownsMap Ybaz.prog 9 (heldR S) b nn D0) (hbne : b ≠ bs) (hS : ∀ c, S c = true → w.cell? ⟨c, 0, none⟩ = some (.bool true) ∧ c < w.heap.size ∧ c ≠ bs) (hN : Maps.size D0 ≤ 1024) :
    Calls Ybaz.prog 6 #[.pointer (some ⟨bs, 0, none⟩)] w fun e w' => ∃ (ks : List (List UInt8)) (v : Value), ks.Nodup ∧ (∀ x, x ∈ ks ↔ has D0 (.string x) = true) ∧ ks.length ≤ 1024 ∧ e = .returned v ∧ v ≠ .slice none 0 0 ∧ w'.ownsRow w.heap.size 82 2 v ks.length (rowOf ks) ∧ Below B w w' := by
  refine (callsIn_wide (n := 6)).1 ?_
  refine callsIn_of_wp_marks Ybaz.func6 rfl trivial ?_ rfl
  simp only [Ybaz.ntmps6, List.size_toArray, List.length_cons, List.length_nil, Nat.reduceAdd, Nat.reduceSub, Array.replicate_succ, Array.replicate_zero, List.push_toArray, List.append_toArray, List.nil_append, List.cons_append]
  gi_wp2_with (first | (gi_at_call 11; done) | (gi_at_call 13; done))
  have hB1 : Below w.heap.size w ((w.alloc (.cells #[] 82)).alloc (.cells #[.slice (some ⟨w.heap.size, 0, none⟩) 0 0] 76)) := (((Below.refl _ w).alloc (Nat.le_refl _) _).alloc (by simp) _)
  have hb1 : Boxed ((w.alloc (.cells #[] 82)).alloc (.cells #[.slice (some ⟨w.heap.size, 0, none⟩) 0 0] 76)) (w.heap.size + 1) 76 (.slice (some ⟨w.heap.size, 0, none⟩) 0 0) := by
    have := Boxed.new (w.alloc (.cells #[] 82)) 76 (.slice (some ⟨w.heap.size, 0, none⟩) 0 0)
    rwa [World.size_alloc] at this
  have hr1 : ((w.alloc (.cells #[] 82)).alloc (.cells #[.slice (some ⟨w.heap.size, 0, none⟩) 0 0] 76)).ownsRow w.heap.size 82 2 (.slice (some ⟨w.heap.size, 0, none⟩) 0 0) 0 [] :=
    ⟨by simp, .inr ⟨w.heap.size, 0, #[], rfl, Nat.le_refl _, (Below.heap_alloc _ _ _ (by simp)).trans (World.alloc_heap_new w _), Nat.le_refl _, by decide, by simp, by simp⟩⟩
  obtain ⟨W1, hW1⟩ : ∃ W1, ((w.alloc (.cells #[] 82)).alloc (.cells #[.slice (some ⟨w.heap.size, 0, none⟩) 0 0] 76)) = W1 := ⟨_, rfl⟩
  have hsz1 : W1.heap.size = w.heap.size + 2 := by rw [← hW1]; simp
  rw [hW1] at hB1 hb1 hr1 ⊢
  clear hW1
  have hmu1 : W1.cell? ⟨bs, 13, none⟩ = some (.int .i32 0) := (hB1.cell (p := ⟨bs, 13, none⟩) hbs).trans hmu
  have hmf1 : W1.frozen? ⟨bs, 13, none⟩ = false := (hB1.frozen (p := ⟨bs, 13, none⟩) hbs).trans hmf
  refine ⟨trivial, ?_⟩
  refine (callsIn_wide.2 (lock_free Ybaz.muLib ⟨bs, 13, none⟩ _ hmu1 hmf1)).mono ?_
  rintro e w' ⟨rfl, rfl⟩
  -- behind the lock
  have hoth : ∀ k, k ≠ bs → (W1.setCell ⟨bs, 13, none⟩ (.int .i32 1)).heap[k]? = W1.heap[k]? := fun k hk => Below.heap_setCell _ _ _ k hk
  have hl2 : (W1.setCell ⟨bs, 13, none⟩ (.int .i32 1)).cell? ⟨bs, 13, none⟩ = some (.int .i32 1) := World.cell?_setCell_same _ _ _ hmu1
  have hf2 : (W1.setCell ⟨bs, 13, none⟩ (.int .i32 1)).frozen? ⟨bs, 13, none⟩ = false := by rw [World.frozen?_setCell]; exact hmf1
  have hp2 : (W1.setCell ⟨bs, 13, none⟩ (.int .i32 1)).cell? ⟨bs, 16, none⟩ = some (.pointer (some ⟨bp, 0, none⟩)) := (World.cell?_setCell_other _ _ _ _ (by simp)).trans ((hB1.cell (p := ⟨bs, 16, none⟩) hbs).trans hpart)
  have hm2 : (W1.setCell ⟨bs, 13, none⟩ (.int .i32 1)).cell? ⟨bp, 1, none⟩ = some (.map (some b)) := (World.cell?_of_block (hoth bp hpne)).trans ((hB1.cell (p := ⟨bp, 1, none⟩) hbp).trans hmap)
  have hB2 : Below B w (W1.setCell ⟨bs, 13, none⟩ (.int .i32 1)) := (hB1.mono (by omega)).setCell (p := ⟨bs, 13, none⟩) hBs _
  have hS2 : ∀ c, S c = true → (W1.setCell ⟨bs, 13, none⟩ (.int .i32 1)).cell? ⟨c, 0, none⟩ = some (.bool true) := fun c hc => (World.cell?_of_block (hoth c (hS c hc).2.2)).trans ((hB1.cell (p := ⟨c, 0, none⟩) (hS c hc).2.1).trans (hS c hc).1)
  have hbb : b < w.heap.size := hown.lt
  have ho2 : (W1.setCell ⟨bs, 13, none⟩ (.int .i32 1)).ownsMap Ybaz.prog 9 (heldR S) b nn D0 := by
    obtain ⟨es, clock, hb, Ft, hs, hD⟩ := hown
    exact ⟨es, clock, (hoth b hbne).trans ((hB1.block b hbb).trans hb), Ft, hs, hD⟩
  have hb2 : Boxed (W1.setCell ⟨bs, 13, none⟩ (.int .i32 1)) (w.heap.size + 1) 76 (.slice (some ⟨w.heap.size, 0, none⟩) 0 0) := (hoth _ (by omega)).trans hb1
  have hr2 : (W1.setCell ⟨bs, 13, none⟩ (.int .i32 1)).ownsRow w.heap.size 82 2 (.slice (some ⟨w.heap.size, 0, none⟩) 0 0) 0 [] := ownsRow_setCell_below hr1 _ hbs _
  have hsz2 : (W1.setCell ⟨bs, 13, none⟩ (.int .i32 1)).heap.size = w.heap.size + 2 := by simp [World.setCell, hsz1]
  obtain ⟨W2, hW2⟩ : ∃ W2, W1.setCell ⟨bs, 13, none⟩ (.int .i32 1) = W2 := ⟨_, rfl⟩
  rw [hW2] at hl2 hf2 hp2 hm2 hB2 hS2 ho2 hb2 hr2 hsz2 ⊢
  clear hW2 hoth hmu1 hmf1 hb1 hr1 hB1
  gi_wp2_with (first | (gi_at_call 13; done))
  refine ⟨trivial, ?_⟩
  refine (All_in Fence.wide _ trivial trivial rfl (by decide) bp b _ hm2).mono ?_
  rintro e w' ⟨rfl, rfl⟩
  gi_wp2
  have hmm : (W2.alloc (.cells #[.map (some b)] 85)).cell? ⟨w.heap.size + 2, 0, none⟩ = some (.map (some b)) := by
    have := (Boxed.new W2 85 (.map (some b))).cell
    rwa [hsz2] at this
  have hsz3 : (W2.alloc (.cells #[.map (some b)] 85)).heap.size = w.heap.size + 3 := by simp [hsz2]
  have hB23 : Below (w.heap.size + 2) W2 (W2.alloc (.cells #[.map (some b)] 85)) := (Below.refl _ _).alloc (by omega) _
  refine wpIn_rangeFunc_ownF (α := Pair S) rfl (by decide) (gf := 39) (lb := #[.pointer (some ⟨w.heap.size + 2, 0, none⟩)]) rfl trivial (enters_of Ybaz.func39 (by kernel_rfl) rfl)
    (Kp := KeepsWalks) (all_stops S Fence.wide (6 - 1) trivial rfl (by decide) (w.heap.size + 2) b nn D0 _ (by rw [hsz3]; omega) hmm (ho2.alloc _)) walksK_t walksK_b (Below.refl _ _) (fun _ => rfl)
    (fun pre W => (∃ v, Boxed W (w.heap.size + 1) 76 v ∧ W.ownsRow w.heap.size 82 2 v pre.length (rowOf (keysOf pre)) ∧ v ≠ .slice none 0 0 ∧ pre.length ≤ 1024) ∧ Below w.heap.size W2 W)
    (fun _ _ _ => False)
    (OwnFrom.and (Own.from (holdsRow_own w.heap.size (w.heap.size + 1) 76 82 2 (fun pre => pre.length) (fun pre => rowOf (keysOf pre)) (fun pre v => v ≠ .slice none 0 0 ∧ pre.length ≤ 1024)) _) (ownFrom_below (by omega) (by omega)))
    (fun _ _ _ _ _ hs _ _ => hs)
    ⟨⟨_, hb2.alloc _, by simpa [keysOf, rowOf] using hr2.alloc _, by simp, by simp⟩, hB23.mono (by omega)⟩
    (fun x => { tmps := #[.pointer (some ⟨bs, 0, none⟩), undef, .slice none 0 0, .pointer (some ⟨w.heap.size + 1, 0, none⟩), encStr x.1.1, .pointer (some ⟨x.1.2, 0, none⟩), .slice (some ⟨w.heap.size, 0, none⟩) 0 0, .pointer (some ⟨bs, 0, none⟩), .pointer (some ⟨bs, 0, none⟩), .pointer (some ⟨bs, 13, none⟩), .tuple #[], .pointer (some ⟨bs, 0, none⟩), .pointer (some ⟨bs, 0, none⟩), .pointer (some ⟨bs, 13, none⟩), .pointer (some ⟨bs, 0, none⟩), .pointer (some ⟨bs, 0, none⟩), .pointer (some ⟨bs, 16, none⟩), .pointer (some ⟨bp, 0, none⟩), .func (.func 39) #[] #[.pointer (some ⟨w.heap.size + 2, 0, none⟩)], encStr x.1.1, .pointer (some ⟨x.1.2, 0, none⟩), undef, undef, undef, undef, undef, undef, undef, undef, undef, undef], defers := [] }) ?assign ?body ?done ?stop
  case assign =>
    intro l x W K hK
    gi_wp2
    exact hK
  case body =>
    rintro l pre x W ⟨⟨v, hv, hrow, _, _⟩, hBW⟩ hlen
    have hcx : W.cell? ⟨x.1.2, 0, none⟩ = some (.bool true) := (hBW.cell (p := ⟨x.1.2, 0, none⟩) (hS x.1.2 x.2).2.1).trans (hS2 x.1.2 x.2)
    obtain ⟨i0, hi, hz0, hz1, hz2⟩ := info_parts info82
    have hvc := hv.cell
    gi_wp2_with (first | (gi_at_call 14; done))
    refine ⟨trivial, ?_⟩
    refine (CallsIn.inRound l (Prepared_in Fence.wide 3 trivial rfl _ _ hcx)).mono ?_
    rintro e w' ⟨rfl, rfl⟩
    have hlen' : pre.length < 1024 := Nat.lt_of_lt_of_le hlen hN
    have hszW : w.heap.size ≤ w'.heap.size := Nat.le_trans (by omega) hBW.size
    gi_wp2_with (first
      | (gi_at_builtin; refine wpListIn_append_own _ rfl _ _ 76 rfl w.heap.size 82 i0 _ 2 32 Ybaz.underlying76 hi hz0 hz1 hz2 rfl (by decide) _ _ _ rfl (hrow.alloc _) ⟨w'.heap.size, 0, none⟩ 1 1 [encStr x.1.1, prep] rfl rfl (cell_two_new _ _ _ _) (by simp [Value.oneCell', encStr, prep]) (by simp [maxLen]; omega) (by omega) (by simp; omega) ?_; intro v' w1 hown' hgrow _; obtain ⟨g', cap', rfl⟩ := ownsRow_succ hown'; obtain ⟨hv1, hv2, hr2', hk2, hb2'⟩ := hv.appended (by decide) hrow hszW (by omega) hown' hgrow; have hc1 := hv1.cell; have hf1 := hv1.frozen)
      | gi_in)
    exact ⟨hk2, hk2.walks, ⟨⟨_, hv2, by rw [keysOf_snoc, rowOf_snoc]; simpa using hr2', by simp, by simp; omega⟩, hBW.trans hb2'⟩⟩
  case done =>
    rintro D xs W hD hall ⟨⟨v, hv, hrow, hvn, hlen⟩, hBW⟩ hK
    have hvc := hv.cell
    gi_wp2
    have hBp : Below w.heap.size W2 (W.putObj D (.deferred none)) := hBW.trans (belowK_b (w := w) (Nat.le_refl _) W D _ _ (by omega) hK rfl rfl)
    have hrp := ownsRow_putObj hrow (.deferred none) hK rfl
    refine ⟨by simp, .inl ⟨D, _, rfl, run_takeDeferred hK, ?_⟩⟩
    refine ⟨by simp, .inr ⟨fun _ => by decide, .func 12, #[], 12, #[.pointer (some ⟨bs, 13, none⟩)], rfl, by simp [go_sem], fun _ _ => trivial, ?_⟩⟩
    refine (unlock_in _ ⟨bs, 13, none⟩ .returning _ ((hBp.cell (p := ⟨bs, 13, none⟩) hbs).trans hl2) ((hBp.frozen (p := ⟨bs, 13, none⟩) hbs).trans hf2)).mono ?_
    rintro e u' w' ⟨rfl, rfl, rfl⟩
    refine ⟨_, results_tmp rfl _ _ _, keysOf xs, v, hall.1, hall.2, ?_, rfl, hvn, ?_, ?_⟩
    · simpa [keysOf] using hlen
    · simpa [keysOf] using ownsRow_setCell_below hrp ⟨bs, 13, none⟩ hbs (.int .i32 0)
    · exact (hB2.trans (hBp.mono (by omega))).setCell (p := ⟨bs, 13, none⟩) hBs _
  case stop =>
    rintro D c pre W _ _ h _
    exact h.elim
end Go.Proofs.YbulkblgkGreat
