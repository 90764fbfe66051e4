/-
  LawS3115CFaults: the walk.
-/
import Derived.Test.YbulkblmiFmtLay
import Derived.Test.YbulkblmiFmtRounds
import Derived.Test.YbulkblmiFmtData
import Derived.Deep.Light
import Derived.Deep.QuietTactic
import Derived.Deep.RegionHeldLaw
import Derived.BigQuiet
namespace Go.Proofs.YbulkblmiFmt
open Go.RowKit Go.Extern.Stop Go.Stop Go.Extern

/-- An item of the input. -/
theorem item_in {w wr : World} {io : Option Addr} {its : List Item} {j : Nat} {it : Item} (h : ItemsAt w io its) (hb : Below w.heap.size w wr) (hj : its[j]? = some it) :
    ∃ ib iq, io = some ⟨ib, iq, none⟩ ∧ wr.cell? ⟨ib, iq + j * 3, none⟩ = some (.int .u8 (it.knd : Nat)) ∧ wr.cell? ⟨ib, iq + j * 3 + 1, none⟩ = some (.int .u8 (it.tgt : Nat)) ∧ wr.cell? ⟨ib, iq + j * 3 + 2, none⟩ = some (.bool it.em) := by
  rcases h with h | ⟨ib, iq, h1, h2⟩
  · rw [h] at hj; simp at hj
  · obtain ⟨a, b, c⟩ := h2 j it hj
    rw [Nat.mul_comm j 3]
    exact ⟨ib, iq, h1, cell_below hb (Nat.le_refl _) a, cell_below hb (Nat.le_refl _) b, cell_below hb (Nat.le_refl _) c⟩
theorem edge_in {w wr : World} {eo : Option Addr} {es : List Nat} {j v : Nat} (h : EdgesAt w eo es) (hb : Below w.heap.size w wr) (hj : es[j]? = some v) :
    ∃ eb eq, eo = some ⟨eb, eq, none⟩ ∧ wr.cell? ⟨eb, eq + j, none⟩ = some (.int .u8 (v : Nat)) := by
  rcases h with h | ⟨ib, iq, h1, h2⟩
  · rw [h] at hj; simp at hj
  · exact ⟨ib, iq, h1, cell_below hb (Nat.le_refl _) (h2 j v hj)⟩

/-- A rule's store: what it leaves as it was. -/
theorem turns5 (w : World) (rb i : Nat) (a b c d e : Value) : Turns w (((((w.setCell ⟨rb, i * 5, none⟩ a).setCell ⟨rb, i * 5 + 1, none⟩ b).setCell ⟨rb, i * 5 + 2, none⟩ c).setCell ⟨rb, i * 5 + 3, none⟩ d).setCell ⟨rb, i * 5 + 4, none⟩ e) (fun k => k = rb) :=
  (((((Turns.refl w (fun k => k = rb)).setCell (p := ⟨rb, i * 5, none⟩) (.inl rfl) _).setCell (p := ⟨rb, i * 5 + 1, none⟩) (.inl rfl) _).setCell (p := ⟨rb, i * 5 + 2, none⟩) (.inl rfl) _).setCell (p := ⟨rb, i * 5 + 3, none⟩) (.inl rfl) _).setCell (p := ⟨rb, i * 5 + 4, none⟩) (.inl rfl) _
theorem RB.other_type {w : World} {rb n i : Nat} {Bd : Nat → Bool × List (Lk × Bool)} (h : RB w rb n i Bd) (k : Nat) (cs : Array Value) (t : TypeId) (hk : k = rb) (hb : Blk w k cs t) : t = 39 := by
  obtain ⟨cs', hb', _⟩ := h
  subst hk
  exact blk_type hb hb'
theorem CB.other_type {w : World} {cb n i : Nat} {E : Nat → List Nat} (h : CB w cb n i E) (k : Nat) (cs : Array Value) (t : TypeId) (hk : k = cb) (hb : Blk w k cs t) : t = 40 := by
  obtain ⟨cs', hb', _⟩ := h
  subst hk
  exact blk_type hb hb'
theorem ints_take {l : List Nat} {j v : Nat} (h : l[j]? = some v) : ints (l.take (j + 1)) = ints (l.take j) ++ [.int .i64 (v : Int)] := by
  rw [take_next h]; simp [ints]
abbrev zints (l : List Int) : List Value := l.map (fun x => Value.int .i64 x)
/-- What is wanted so far. -/
def WR (w : World) (B : Nat) (v : Value) (l : List Int) : Prop := w.ownsRow B 3 1 v l.length (zints l)
theorem WR.nil (w : World) (B : Nat) : WR w B (.slice none 0 0) [] := World.ownsRow_nil _ _ _ _
theorem WR.below {w w' : World} {B : Nat} {v : Value} {l : List Int} (h : WR w B v l) (hb : Below w.heap.size w w') : WR w' B v l := row_turns h (Turns.of_below hb (fun _ => False)) (fun _ _ h => h)
/-- What is wanted, one more: what it leaves as it was. -/
theorem want_end {w16 w23 w24 : World} {ob : Obj} {B mb n xr yi : Nat} {v v' : Value} {l : List Int} {z : Int} {E : Nat → List Nat} {cX cY : Array Value} (hW : WR w23 B v l) (hg : (w23.alloc ob).grownBy w24 v.ownBlock) (hown : w24.ownsRow B 3 1 v' (l.length + 1) (zints l ++ [.int .i64 z]))
    (hM : Memo w23 mb n E) (hX : Blk w23 xr cX 26) (hY : Blk w23 yi cY 31) (hB : Below B w16 w23) (hs : B ≤ w23.heap.size) : WR w24 B v' (l ++ [z]) ∧ Memo w24 mb n E ∧ Blk w24 xr cX 26 ∧ Blk w24 yi cY 31 ∧ Below B w16 w24 := by
  have hT : Turns w23 w24 (fun k => v.ownBlock = some k) := ((Turns.refl w23 _).alloc _).grown hg (fun k e => .inl e)
  have hty : ∀ k cs t, v.ownBlock = some k → Blk w23 k cs t → t = 3 := by
    intro k cs t hk hb
    by_cases e : t = 3
    · exact e
    · exact absurd hk.symm (row_block_ne hb hW e)
  refine ⟨?_, hM.keep hT (fun k cs t a b => by rw [hty k cs t a b]; exact ⟨by decide, by decide⟩), hX.turns hT (fun a => absurd (hty _ _ _ a hX) (by decide)), hY.turns hT (fun a => absurd (hty _ _ _ a hY) (by decide)), hB.trans (hT.to_below hs (fun k hk => ownBlock_ge hW k hk))⟩
  unfold WR
  simpa using hown
/-- The memo's store. -/
theorem memo_set {w16 w21 : World} {B mb n xr yi x g : Nat} {v : Value} {l : List Int} {m : List Bool} {E : Nat → List Nat} {cX cY : Array Value} (hM : Memo w21 mb n E) (hx : x < n) (hg : Blk w21 g (bools m) 4) (hm : Marks E x n m) (hW : WR w21 B v l) (hX : Blk w21 xr cX 26) (hY : Blk w21 yi cY 31) (hB : Below B w16 w21) (hs : B ≤ w21.heap.size) (hmb : B ≤ mb) :
    ((w21.setCell ⟨mb, x, none⟩ (.slice (some ⟨g, 0, none⟩) n n)).cell? ⟨mb, x, none⟩ = some (.slice (some ⟨g, 0, none⟩) n n) ∧ Blk (w21.setCell ⟨mb, x, none⟩ (.slice (some ⟨g, 0, none⟩) n n)) g (bools m) 4 ∧ Marks E x n m) ∧
      WR (w21.setCell ⟨mb, x, none⟩ (.slice (some ⟨g, 0, none⟩) n n)) B v l ∧ Memo (w21.setCell ⟨mb, x, none⟩ (.slice (some ⟨g, 0, none⟩) n n)) mb n E ∧ Blk (w21.setCell ⟨mb, x, none⟩ (.slice (some ⟨g, 0, none⟩) n n)) xr cX 26 ∧ Blk (w21.setCell ⟨mb, x, none⟩ (.slice (some ⟨g, 0, none⟩) n n)) yi cY 31 ∧ Below B w16 (w21.setCell ⟨mb, x, none⟩ (.slice (some ⟨g, 0, none⟩) n n)) := by
  have hM' := hM.step hx hg hm
  obtain ⟨cs, hb, hsz, _⟩ := hM
  have hT : Turns w21 (w21.setCell ⟨mb, x, none⟩ (.slice (some ⟨g, 0, none⟩) n n)) (fun k => k = mb) := (Turns.refl w21 (fun k => k = mb)).setCell (p := ⟨mb, x, none⟩) (.inl rfl) _
  have hne : ∀ {k : Nat} {cs' : Array Value} {t : TypeId}, Blk w21 k cs' t → t ≠ 42 → ¬ k = mb := by
    intro k cs' t h ht e
    subst e
    exact ht (blk_type h hb)
  refine ⟨⟨?_, hg.turns hT (hne hg (by decide)), hm⟩, ?_, hM', hX.turns hT (hne hX (by decide)), hY.turns hT (hne hY (by decide)), hB.trans (hT.to_below hs (fun k e => by omega))⟩
  · exact (hb.set x _).cell x (by rw [Array.getElem?_setIfInBounds_self_of_lt (by omega)])
  · exact row_other hW ⟨mb, x, none⟩ (row_block_ne hb hW (by decide)) _
theorem graph_lt {n : Nat} {D : Nat → RuleD} (hn : 0 < n) : ∀ u, u < n → ∀ v ∈ graphOf n D u, v < n := by
  intro u _ v hv
  obtain ⟨x, _, rfl⟩ := List.mem_map.1 hv
  exact Nat.mod_lt _ hn
theorem frow_get : ∀ {l : List (Int × ByteArray)} {k : Nat} {p : Int × ByteArray}, l[k]? = some p → (frow l)[k * 2]? = some (.int .i64 p.1)
  | [], k, p, h => by simp at h
  | a :: r, 0, p, h => by
    simp at h
    subst h
    simp [frow]
  | a :: r, k + 1, p, h => by
    have := frow_get (l := r) (k := k) (p := p) (by simpa using h)
    rw [show (k + 1) * 2 = k * 2 + 1 + 1 by omega]
    simpa [frow] using this
theorem below_drewN {B : Nat} {w w' : World} (h : Below B w w') (d : Nat) : Below B w (w'.drewN d) := ⟨h.os, h.tape, h.output, h.size, h.block⟩
theorem out_no {R : Nat → Nat → Bool} {i k x : Nat} {p : Int} (hk : k < 6) (h : ¬ (k = 2 ∨ k = 3 ∨ k = 5)) : outOf R i (lookOf k x p) = [] := by
  have : k = 0 ∨ k = 1 ∨ k = 4 := by omega
  rcases this with rfl | rfl | rfl <;> rfl
theorem out_yes {R : Nat → Nat → Bool} {i k x : Nat} {p : Int} (h : k = 2 ∨ k = 3 ∨ k = 5) : outOf R i (lookOf k x p) = if R x i = true then [if k = 5 then -p else p] else [] := by
  rcases h with rfl | rfl | rfl <;> rfl
theorem al3 {w : World} {o : Obj} {x : Nat} {a b c : Value} (h : w.cell? ⟨x, 0, none⟩ = some a ∧ w.cell? ⟨x, 1, none⟩ = some b ∧ w.cell? ⟨x, 2, none⟩ = some c) : (w.alloc o).cell? ⟨x, 0, none⟩ = some a ∧ (w.alloc o).cell? ⟨x, 1, none⟩ = some b ∧ (w.alloc o).cell? ⟨x, 2, none⟩ = some c :=
  ⟨Lib.cell?_alloc_some _ h.1, Lib.cell?_alloc_some _ h.2.1, Lib.cell?_alloc_some _ h.2.2⟩
theorem keep3 {w w' : World} {o : Obj} {row : Option Nat} {x : Nat} {a b c : Value} (h : w.cell? ⟨x, 0, none⟩ = some a ∧ w.cell? ⟨x, 1, none⟩ = some b ∧ w.cell? ⟨x, 2, none⟩ = some c) (hg : (w.alloc o).grownBy w' row) (hx : x < w.heap.size) (hr : some x ≠ row) : w'.cell? ⟨x, 0, none⟩ = some a ∧ w'.cell? ⟨x, 1, none⟩ = some b ∧ w'.cell? ⟨x, 2, none⟩ = some c :=
  ⟨(hg.cell_far ⟨x, 0, none⟩ (by simp; omega) hr).trans (Lib.cell?_alloc_some _ h.1), (hg.cell_far ⟨x, 1, none⟩ (by simp; omega) hr).trans (Lib.cell?_alloc_some _ h.2.1), (hg.cell_far ⟨x, 2, none⟩ (by simp; omega) hr).trans (Lib.cell?_alloc_some _ h.2.2)⟩

theorem sumTo_le (D : Nat → RuleD) (i : Nat) (h : ∀ u, u < i → (D u).items.length ≤ 1024 ∧ (D u).edges.length ≤ 1024) : sumTo D i ≤ 2048 * i := by
  induction i with
  | zero => exact Nat.le_refl _
  | succ i ih =>
    have h1 := ih (fun u hu => h u (by omega))
    have h2 := h i (by omega)
    simp only [sumTo]; omega

/-- A rule of the input, behind what has kept the input. -/
theorem rule_at {w wr : World} {ab q n i : Nat} {D : Nat → RuleD} (h : RulesAt w ab q n D) (hb : Below w.heap.size w wr) (hi : i < n) : ∃ io ic eo ec, wr.cell? ⟨ab, q + i * 3, none⟩ = some (.bool (D i).ch) ∧ wr.cell? ⟨ab, q + i * 3 + 1, none⟩ = some (.slice io (D i).items.length ic) ∧ wr.cell? ⟨ab, q + i * 3 + 2, none⟩ = some (.slice eo (D i).edges.length ec) ∧ ItemsAt w io (D i).items ∧ EdgesAt w eo (D i).edges := by
  obtain ⟨io, ic, eo, ec, c0, c1, c2, h1, h2⟩ := h i hi
  rw [Nat.mul_comm i 3]
  exact ⟨io, ic, eo, ec, cell_below hb (Nat.le_refl _) c0, cell_below hb (Nat.le_refl _) c1, cell_below hb (Nat.le_refl _) c2, h1, h2⟩

set_option maxRecDepth 100000 in
set_option maxHeartbeats 8000000 in
theorem law_walk (F : Interp) (ab q n cap : Nat) (D : Nat → RuleD) (R : Nat → Nat → Bool) (w : World) (hF : F.answers w.tape) (hn0 : 0 < n) (hnm : n ≤ maxLen) (hD : DataOk n D) (hIn : RulesAt w ab q n D)
    (hR : ∀ t i, t < n → i < n → (R t i = true ↔ Reach (graphOf n D) t i)) :
    Calls Ybaf.prog 3 #[.slice (some ⟨ab, q, none⟩) n cap] w fun r w' => r = .returned (.bool true) ∧ Below w.heap.size w w' := by
  obtain ⟨i39, h39, z39a, z39b, z39c⟩ := info_parts info39
  obtain ⟨i40, h40, z40a, z40b, z40c⟩ := info_parts info40
  obtain ⟨i32, h32, z32a, z32b, z32c⟩ := info_parts info32
  obtain ⟨i42, h42, z42a, z42b, z42c⟩ := info_parts info42
  obtain ⟨i3, h3, z3a, z3b, z3c⟩ := info_parts info3
  have HF := hide hF
  have HD := hide hD
  have HIN := hide hIn
  have HR := hide hR
  clear hF hD hIn hR
  unfold maxLen at hnm
  by_cases hbig : 256 < n
  · go_enter Ybaf.func3, Ybaf.ntmps3
    go_wp2
    go_ret
    exact ⟨rfl, Below.refl _ _⟩
  go_enter Ybaf.func3, Ybaf.ntmps3
  go_upto_block 0 with fail
  go_cut [4, 6] from 37 to 60 (fun t _ wc => t = .int .i64 (sumTo D n : Nat) ∧ (∀ u, u < n → (D u).items.length ≤ 1024 ∧ (D u).edges.length ≤ 1024) ∧ Below w.heap.size w wc)
  case first =>
    go_wp2_with fail
    go_loopw [4, 37] (fun t v wr => ∃ i : Nat, i ≤ n ∧ v = .int .i64 i ∧ t = .int .i64 (sumTo D i : Nat) ∧ Hid (∀ u, u < i → (D u).items.length ≤ 1024 ∧ (D u).edges.length ≤ 1024) ∧ Hid (Below w.heap.size w wr)) (fun _ v _ => n - (intOf v).toNat)
    case atStart => exact ⟨0, Nat.zero_le _, rfl, rfl, hide (fun u hu => absurd hu (Nat.not_lt_zero _)), Below.refl _ _⟩
    case round =>
      obtain ⟨i, hi, rfl, rfl, HL, HB⟩ := hrel
      by_cases hlt : i < n
      · obtain ⟨io, ic, eo, ec, c0, c1, c2, _, _⟩ := rule_at (unhide HIN) (unhide HB) hlt
        have hs1 := sumTo_le D i (unhide HL)
        have hm1 := (unhide HD).il i hlt
        have hm2 := (unhide HD).el i hlt
        have hsz := (unhide HB).size
        obtain ⟨LI, hLI⟩ : ∃ LI, (D i).items.length = LI := ⟨_, rfl⟩
        obtain ⟨LE, hLE⟩ : ∃ LE, (D i).edges.length = LE := ⟨_, rfl⟩
        have hsum : sumTo D (i + 1) = sumTo D i + (LI + LE) := by simp only [sumTo, hLI, hLE]
        obtain ⟨SI, hSI⟩ : ∃ SI, sumTo D i = SI := ⟨_, rfl⟩
        rw [hSI] at hs1 hsum
        rw [hLI] at c1 hm1
        rw [hLE] at c2 hm2
        unfold maxLen at hm1 hm2
        have HLI := hide hLI
        have HLE := hide hLE
        have HSUM := hide hsum
        rw [hSI]
        clear hLI hLE hsum hSI
        by_cases hI : 1024 < LI
        · go_wp2
          go_ret
          exact ⟨rfl, (unhide HB).alloc hsz _⟩
        by_cases hE : 1024 < LE
        · go_wp2
          go_ret
          exact ⟨rfl, (unhide HB).alloc hsz _⟩
        go_wp2
        go_roundw
        case rel =>
          refine ⟨i + 1, hlt, by simp, by rw [unhide HSUM]; simp, hide (fun u hu => ?_), hide ((unhide HB).alloc hsz _)⟩
          by_cases e : u = i
          · subst e; rw [unhide HLI, unhide HLE]; omega
          · exact unhide HL u (by omega)
        case measure => go_light; simp [intOf]; omega
      · obtain rfl : i = n := by go_light; omega
        go_wp2
        go_meet
        case rel => exact ⟨rfl, unhide HL, unhide HB⟩
  case rest =>
    obtain ⟨rfl, hlens, hB1⟩ := hcut
    obtain ⟨w1, hw1⟩ : ∃ w1, w1 = wc := ⟨_, rfl⟩
    subst hw1
    have hsumle := sumTo_le D n hlens
    have HLENS := hide hlens
    have HB1 := hide hB1
    have hsz1 := hB1.size
    obtain ⟨S, hS⟩ : ∃ S, sumTo D n = S := ⟨_, rfl⟩
    rw [hS] at hsumle ⊢
    have HS := hide hS
    clear hlens hB1 hS
    by_cases hbigS : 1024 < S
    · go_wp2
      go_ret
      exact ⟨rfl, unhide HB1⟩
    go_upto_region 14 with fail
    obtain ⟨rb, hrb⟩ : ∃ rb, w1.heap.size = rb := ⟨_, rfl⟩
    go_wp2_with (at_make; refine wpList_make_full _ rfl _ _ 27 rfl w1.heap.size 39 i39 _ 5 Ybaf.underlying27 h39 z39a z39b _ _ _ _ n rfl rfl rfl rfl (by rw [z39c]; omega) (by unfold maxLen; omega) (Nat.le_refl _) ?_)
    intro w2 hrow2 hgr2
    have HR2 : Hid (RB w2 rb n 0 (BdOf n D)) := hide (RB.start hrow2)
    have HB2 : Hid (Below w.heap.size w w2) := hide ((unhide HB1).grown hgr2 hsz1 (fun k e => by cases e))
    have hsz2 := hgr2.size
    have hrb2 := (unhide HR2).lt
    clear hrow2 hgr2
    obtain ⟨cb, hcb⟩ : ∃ cb, w2.heap.size = cb := ⟨_, rfl⟩
    go_wp2_with (at_make; refine wpList_make_full _ rfl _ _ 28 rfl w2.heap.size 40 i40 _ 1 Ybaf.underlying28 h40 z40a z40b _ _ _ _ n rfl rfl rfl rfl (by rw [z40c]; omega) (by unfold maxLen; omega) (Nat.le_refl _) ?_)
    intro w3 hrow3 hgr3
    have HC3 : Hid (CB w3 cb n 0 (graphOf n D)) := hide (CB.start hrow3)
    have hB23 : Below w2.heap.size w2 w3 := (Below.refl _ w2).grown hgr3 (Nat.le_refl _) (fun k e => by cases e)
    have HR3 := hide ((unhide HR2).below hB23)
    have HB3 := hide ((unhide HB2).trans (hB23.mono (by omega)))
    have hsz3 := hB23.size
    clear hrow3 hgr3 hB23 HR2 HB2
    go_upto_block 2 with fail
    go_cut [9, 10, 11, 12, 14, 15, 16, 18] from 69 to 135 (fun _ _ _ _ _ _ _ _ wc => RB wc rb n n (BdOf n D) ∧ CB wc cb n n (graphOf n D) ∧ Below w.heap.size w wc)
    case first =>
      go_wp2_with fail
      go_loopw [9, 69] (fun t v wr => ∃ i : Nat, i ≤ n ∧ v = .int .i64 i ∧ t = .int .i64 (cnt D i : Nat) ∧ Hid (RB wr rb n i (BdOf n D)) ∧ Hid (CB wr cb n i (graphOf n D)) ∧ Hid (Below w.heap.size w wr)) (fun _ v _ => n - (intOf v).toNat)
      case atStart => exact ⟨0, Nat.zero_le _, rfl, rfl, HR3, HC3, HB3⟩
      case round =>
        clear HR3 HC3 HB3
        obtain ⟨wi, hwi⟩ : ∃ wi, wi = wr := ⟨_, rfl⟩
        subst hwi
        obtain ⟨i, hi, rfl, rfl, HRB, HCB, HB⟩ := hrel
        by_cases hlt : i < n
        · obtain ⟨io, ic, eo, ec, c0, c1, c2, hia, hea⟩ := rule_at (unhide HIN) (unhide HB) hlt
          have hl1 := unhide HLENS i hlt
          have hci : cnt D i + (D i).items.length ≤ 1024 := by
            have h1 := cnt_le D (i + 1)
            have h2 := sumTo_mono D (show i + 1 ≤ n from hlt)
            rw [unhide HS] at h2
            simp only [cnt] at h1
            omega
          have HIA := hide hia
          have HEA := hide hea
          have hkd : Hid (∀ it ∈ (D i).items, it.knd < 256 ∧ it.tgt < 256) := hide (fun it h => ⟨(unhide HD).knd i hlt it h, (unhide HD).tgt i hlt it h⟩)
          have hed : Hid (∀ v ∈ (D i).edges, v < 256) := hide ((unhide HD).edge i hlt)
          obtain ⟨its, hits⟩ : ∃ its, (D i).items = its := ⟨_, rfl⟩
          obtain ⟨eds, heds⟩ : ∃ eds, (D i).edges = eds := ⟨_, rfl⟩
          have hcnt : cnt D (i + 1) = cnt D i + its.length := by simp only [cnt, hits]
          obtain ⟨CI, hCI⟩ : ∃ CI, cnt D i = CI := ⟨_, rfl⟩
          obtain ⟨CH, hCH⟩ : ∃ CH, (D i).ch = CH := ⟨_, rfl⟩
          have hbd : BdOf n D i = (CH, itemsX n CI its) := by simp only [BdOf, hCH, hCI, hits]
          have hgr : graphOf n D i = eds.map (· % n) := by simp only [graphOf, heds]
          rw [hits] at hl1 hci HIA hkd c1
          rw [heds] at hl1 HEA hed c2
          rw [hCI] at hci hcnt ⊢
          rw [hCH] at c0
          obtain ⟨LI, hLI⟩ : ∃ LI, its.length = LI := ⟨_, rfl⟩
          obtain ⟨LE, hLE⟩ : ∃ LE, eds.length = LE := ⟨_, rfl⟩
          rw [hLI] at hl1 hci c1 hcnt
          rw [hLE] at hl1 c2
          obtain ⟨hl2, hl3⟩ := hl1
          have HLI := hide hLI
          have HLE := hide hLE
          have HCNT := hide hcnt
          have HBD := hide hbd
          have HGR := hide hgr
          have hszr := (unhide HB).size
          clear hia hea hLI hLE hcnt hbd hgr hits heds hCI hCH
          go_upto_region 20 with fail
          have hX4 := Blk.new wi #[.bool CH, .slice io LI ic, .slice eo LE ec] 26
          have hB4 : Below wi.heap.size wi (wi.alloc (.cells #[.bool CH, .slice io LI ic, .slice eo LE ec] 26)) := (Below.refl _ wi).alloc (Nat.le_refl _) _
          obtain ⟨w4, hw4⟩ : ∃ w4, wi.alloc (.cells #[.bool CH, .slice io LI ic, .slice eo LE ec] 26) = w4 := ⟨_, rfl⟩
          rw [hw4] at hX4 hB4 ⊢
          have x1 := hX4.cell 1 rfl
          have HX4 := hide hX4
          have HB4 := hide hB4
          have hxr4 := hX4.lt
          have hs4 := hB4.size
          clear hX4 hB4 hw4 c0 c1 c2
          go_wp2_with (at_make; refine wpList_make_own _ rfl _ _ 29 rfl w4.heap.size 32 i32 (.pointer none) 1 Ybaf.underlying29 h32 z32a z32b _ _ _ LI rfl rfl rfl (by rw [z32c]; omega) (by unfold maxLen; omega) (Nat.le_refl _) ?_)
          intro w5 hrow5 hgr5
          have hB45 : Below w4.heap.size w4 w5 := (Below.refl _ w4).grown hgr5 (Nat.le_refl _) (fun k e => by cases e)
          have HSB5 : Hid (SB w5 w4.heap.size n CI its 0 (.slice (some ⟨w4.heap.size, 0, none⟩) 0 LI)) := SB.start hrow5
          have y1 : w5.cell? ⟨wi.heap.size, 1, none⟩ = some (.slice io LI ic) := (hB45.cell (p := ⟨wi.heap.size, 1, none⟩) hxr4).trans x1
          have HB45 := hide hB45
          clear hrow5 hgr5 hB45 x1
          go_upto_block 4 with fail
          go_cut [9, 12, 14] from 81 to 98 (fun t v _ wc => t = .int .i64 (CI + LI : Nat) ∧ (∃ g cp, v = .slice (some ⟨g, 0, none⟩) LI cp ∧ SB wc w4.heap.size n CI its LI (.slice (some ⟨g, 0, none⟩) LI cp)) ∧ Below w4.heap.size w4 wc)
          case first =>
            go_wp2_with fail
            go_loopw [9, 12, 81] (fun t v x wr => ∃ j : Nat, j ≤ LI ∧ x = .int .i64 j ∧ t = .int .i64 (CI + j : Nat) ∧ Hid (SB wr w4.heap.size n CI its j v) ∧ Hid (Below w4.heap.size w4 wr)) (fun _ _ x _ => LI - (intOf x).toNat)
            case atStart => exact ⟨0, Nat.zero_le _, rfl, rfl, HSB5, HB45⟩
            case round =>
              clear HSB5 HB45 y1
              obtain ⟨j, hj, rfl, rfl, HSB, HBj⟩ := hrel
              by_cases hjl : j < LI
              · obtain ⟨it, hit⟩ : ∃ it, its[j]? = some it := ⟨_, List.getElem?_eq_getElem (by have := unhide HLI; omega)⟩
                have hszj := (unhide HBj).size
                have hBwr : Below w.heap.size w wr := ((unhide HB).trans ((unhide HB4).mono hszr)).trans ((unhide HBj).mono (by omega))
                obtain ⟨ib, iq, rfl, d0, d1, d2⟩ := item_in (unhide HIA) hBwr hit
                obtain ⟨hk256, ht256⟩ := unhide hkd it (List.mem_of_getElem? hit)
                obtain ⟨kd, tg, em⟩ := it
                simp only at d0 d1 d2 hk256 ht256
                obtain ⟨bs, g, cp, rfl, hbl, hown, hitx⟩ := unhide HSB
                have hgl := ownBlock_lt hown g rfl
                have hge := ownBlock_ge hown g rfl
                obtain ⟨x, hx⟩ : ∃ x, tg % n = x := ⟨_, rfl⟩
                have hmod : (tg : Int) % (n : Int) = (x : Int) := by rw [← hx]; simp
                have HXM := hide hx
                have HIT := hide hit
                have HOWN := hide hown
                have HITX := hide hitx
                have HBL := hide hbl
                have HBWR := hide hBwr
                clear hx hit hown hitx hbl hBwr
                go_upto_region 25 with fail
                have hXi := Blk.new wr #[.int .u8 kd, .int .u8 tg, .bool em] 31
                have hBi : Below wr.heap.size wr (wr.alloc (.cells #[.int .u8 kd, .int .u8 tg, .bool em] 31)) := (Below.refl _ wr).alloc (Nat.le_refl _) _
                have hRi := (unhide HOWN).alloc (.cells #[.int .u8 kd, .int .u8 tg, .bool em] 31)
                obtain ⟨w6, hw6⟩ : ∃ w6, wr.alloc (.cells #[.int .u8 kd, .int .u8 tg, .bool em] 31) = w6 := ⟨_, rfl⟩
                rw [hw6] at hXi hBi hRi ⊢
                have hS : w6.cell? ⟨wr.heap.size, 0, none⟩ = some (.int .u8 kd) ∧ w6.cell? ⟨wr.heap.size, 1, none⟩ = some (.int .u8 tg) ∧ w6.cell? ⟨wr.heap.size, 2, none⟩ = some (.bool em) := ⟨hXi.cell 0 rfl, hXi.cell 1 rfl, hXi.cell 2 rfl⟩
                have hxl := hXi.lt
                have HBi := hide hBi
                have HRi := hide hRi
                clear hXi hBi hRi hw6 d0 d1 d2
                obtain ⟨P, hP⟩ : ∃ P : Nat, CI + j + 1 = P := ⟨_, rfl⟩
                have hpe : (CI : Int) + (j : Int) + 1 = (P : Int) := by omega
                rw [hpe]
                have hP2 : P ≤ 2000 := by omega
                go_region_held_law (fun w' => w'.cell? ⟨wr.heap.size, 0, none⟩ = some (.int .u8 kd) ∧ w'.cell? ⟨wr.heap.size, 1, none⟩ = some (.int .u8 tg) ∧ w'.cell? ⟨wr.heap.size, 2, none⟩ = some (.bool em)) (first | with_reducible assumption | (with_reducible refine al3 ?_; with_reducible assumption) | exact hS)
                  (first
                    | (refine step_append_lies _ rfl (.tmp 87) (.tmp 96) 29 rfl w4.heap.size 32 i32 (.pointer none) 1 8 Ybaf.underlying29 h32 z32a z32b z32c rfl (by decide) (.slice (some ⟨g, 0, none⟩) j cp) j (bs.map ptr) rfl ((unhide HR7).alloc _) ⟨w7.heap.size, 0, none⟩ 1 1 [ptr b] rfl rfl (cell_one_new _ _ _) (by simp [Value.oneCell']) (by decide) (by unfold maxLen; omega) (by omega) (by simp; omega) _ rfl ?_; intro g' cp' w8 hown8 hgrow8 hat8 hlt8; have hS8 : w8.cell? ⟨wr.heap.size, 0, none⟩ = some (.int .u8 kd) ∧ w8.cell? ⟨wr.heap.size, 1, none⟩ = some (.int .u8 tg) ∧ w8.cell? ⟨wr.heap.size, 2, none⟩ = some (.bool em) := keep3 hS7 hgrow8 (by omega) (by simp [Value.ownBlock]; omega))
                    | (go_at_call 4; refine (build_calls kd tg x P em _ hk256 hP2).mono ?_; rintro r w7 ⟨b, rfl, hx7, hb7⟩; have hs7 := hb7.size; have hS7 : w7.cell? ⟨wr.heap.size, 0, none⟩ = some (.int .u8 kd) ∧ w7.cell? ⟨wr.heap.size, 1, none⟩ = some (.int .u8 tg) ∧ w7.cell? ⟨wr.heap.size, 2, none⟩ = some (.bool em) := ⟨(hb7.cell (p := ⟨wr.heap.size, 0, none⟩) hxl).trans hS.1, (hb7.cell (p := ⟨wr.heap.size, 1, none⟩) hxl).trans hS.2.1, (hb7.cell (p := ⟨wr.heap.size, 2, none⟩) hxl).trans hS.2.2⟩; have HR7 : Hid (w7.ownsRow w4.heap.size 32 1 (.slice (some ⟨g, 0, none⟩) j cp) j (bs.map ptr)) := row_turns (unhide HRi) (Turns.of_below ⟨hb7.os, hb7.tape, hb7.output, hb7.size, hb7.block⟩ (fun _ => False)) (fun _ _ h => h); have HX7 := hide hx7; have HB7 : Hid (Below w6.heap.size w6 w7) := ⟨hb7.os, hb7.tape, hb7.output, hb7.size, hb7.block⟩; have hs7' : w6.heap.size ≤ w7.heap.size := hb7.size; clear hx7 hb7))
                all_goals
                  have hT78 : Turns w7 w8 (fun k => k = g) := ((Turns.refl w7 _).alloc _).grown hgrow8 (fun k e => .inl (by simpa [Value.ownBlock] using e.symm))
                  have hB67 : Below wr.heap.size wr w7 := (unhide HBi).trans ((unhide HB7).mono (by omega))
                  have HSB8 : Hid (SB w8 w4.heap.size n CI its (j + 1) (.slice (some ⟨g', 0, none⟩) (j + 1) cp')) := hide (SB.onward (unhide HBL) (unhide HITX) (unhide HIT) hB67 (by have := unhide HX7; rw [← unhide HXM, ← hP] at this; exact this) (unhide HR7) hT78 hown8)
                  have HB8 : Hid (Below w4.heap.size w4 w8) := hide (((unhide HBj).trans (hB67.mono hszj)).trans (hT78.to_below (by omega) (fun k e => by omega)))
                  clear hT78 hB67 hown8 hgrow8 hat8 HX7 HR7 HB7 hS hS7 hS8 HBi HRi
                  go_wp2
                  go_roundw
                  case rel => exact ⟨j + 1, hjl, by simp, by rw [← hP]; simp [Int.add_assoc], HSB8, HB8⟩
                  case measure => go_light; simp [intOf]; omega
              · obtain rfl : j = LI := by go_light; omega
                go_wp2
                go_meet
                case rel =>
                  have hsb := unhide HSB
                  obtain ⟨bs, g, cp, rfl, _⟩ := unhide HSB
                  exact ⟨rfl, ⟨g, cp, rfl, hsb⟩, unhide HBj⟩
          case rest =>
            obtain ⟨rfl, ⟨g9, cp9, rfl, hSB9⟩, hB9⟩ := hcut
            obtain ⟨w9, hw9⟩ : ∃ w9, w9 = wc := ⟨_, rfl⟩
            subst hw9
            have HSB9 := hide hSB9
            have HB9 := hide hB9
            have hX9 := (unhide HX4).below hB9 hxr4
            have x9 := hX9.cell 0 rfl
            have HX9 := hide hX9
            have hs9 := hB9.size
            clear hSB9 hB9 hX9 HSB5 HB45 y1 HX4
            go_upto_if 100 with fail
            go_cut [15] from 101 to 106 (fun t wc => ∃ bd, t = ptr bd ∧ BodyX wc wc.heap.size bd CH (itemsX n CI its) ∧ Below w9.heap.size w9 wc)
            case first =>
              cases CH with
              | true =>
                go_wp2
                go_meet
                case rel => exact ⟨w9.heap.size, rfl, SB.body (ch := true) (by rw [unhide HLI]; exact unhide HSB9) ((Below.refl _ w9).alloc (Nat.le_refl _) _) (EX.new rfl), (Below.refl _ w9).alloc (Nat.le_refl _) _⟩
              | false =>
                go_wp2
                go_meet
                case rel => exact ⟨w9.heap.size, rfl, SB.body (ch := false) (by rw [unhide HLI]; exact unhide HSB9) ((Below.refl _ w9).alloc (Nat.le_refl _) _) (EX.new rfl), (Below.refl _ w9).alloc (Nat.le_refl _) _⟩
            case rest =>
              obtain ⟨bd, rfl, hbd10, hB10⟩ := hcut
              obtain ⟨w10, hw10⟩ : ∃ w10, w10 = wc := ⟨_, rfl⟩
              subst hw10
              have hBi10 : Below wi.heap.size wi w10 := ((unhide HB4).trans ((unhide HB9).mono hs4)).trans (hB10.mono (by omega))
              have hRB10 := (unhide HRB).below hBi10
              have hCB10 := (unhide HCB).below hBi10
              have hX10 := (unhide HX9).below hB10 (by omega)
              obtain ⟨v0, e0⟩ := hRB10.there (j := i * 5) (by omega)
              obtain ⟨v1, e1⟩ := hRB10.there (j := i * 5 + 1) (by omega)
              obtain ⟨v2, e2⟩ := hRB10.there (j := i * 5 + 2) (by omega)
              obtain ⟨v3, e3⟩ := hRB10.there (j := i * 5 + 3) (by omega)
              obtain ⟨v4, e4⟩ := hRB10.there (j := i * 5 + 4) (by omega)
              have f0 := hRB10.frozen (i * 5)
              have f1 := hRB10.frozen (i * 5 + 1)
              have f2 := hRB10.frozen (i * 5 + 2)
              have f3 := hRB10.frozen (i * 5 + 3)
              have f4 := hRB10.frozen (i * 5 + 4)
              have HRB10 := hide hRB10
              have HCB10 := hide hCB10
              have HX10 := hide hX10
              have HBD10 := hide hbd10
              have HBi10 := hide hBi10
              have hsi10 := hBi10.size
              clear hRB10 hCB10 hX10 hbd10 hBi10 hB10 HSB9 HB9 HX9 x9
              go_upto_region 32 with fail
              have hT11 := turns5 w10 rb i strR (.int .i64 0) (ptr bd) (.int .i64 (-1)) (.slice none 0 0)
              have hRB11 := (unhide HRB10).step hlt (bd := bd) (by rw [unhide HBD]; exact unhide HBD10)
              have hCB11 := (unhide HCB10).keep hT11 (fun k cs t hk hb => by rw [(unhide HRB10).other_type k cs t hk hb]; exact ⟨by decide, by decide⟩)
              have hxn : ¬ wi.heap.size = rb := fun e => absurd ((unhide HRB10).other_type _ _ _ e (unhide HX10)) (by decide)
              have hX11 := (unhide HX10).turns hT11 hxn
              have hB11 : Below w.heap.size w _ := ((unhide HB).trans ((unhide HBi10).mono hszr)).trans (hT11.to_below (by omega) (fun k e => by omega))
              obtain ⟨w11, hw11⟩ : ∃ w11, (((((w10.setCell ⟨rb, i * 5, none⟩ strR).setCell ⟨rb, i * 5 + 1, none⟩ (.int .i64 0)).setCell ⟨rb, i * 5 + 2, none⟩ (ptr bd)).setCell ⟨rb, i * 5 + 3, none⟩ (.int .i64 (-1))).setCell ⟨rb, i * 5 + 4, none⟩ (.slice none 0 0)) = w11 := ⟨_, rfl⟩
              rw [hw11] at hRB11 hCB11 hX11 hB11 ⊢
              have x11 := hX11.cell 2 rfl
              have HRB11 := hide hRB11
              have HCB11 := hide hCB11
              have HX11 := hide hX11
              have HB11 := hide hB11
              have hxl11 := hX11.lt
              have hs11 := hB11.size
              clear hT11 hRB11 hCB11 hX11 hB11 hw11 HRB10 HCB10 HX10 HBD10 HBi10 e0 e1 e2 e3 e4 f0 f1 f2 f3 f4
              go_wp2_with (at_make; refine wpList_make_own _ rfl _ _ 40 rfl w11.heap.size 3 i3 (.int .i64 0) 1 Ybaf.underlying40 h3 z3a z3b _ _ _ LE rfl rfl rfl (by rw [z3c]; omega) (by unfold maxLen; omega) (Nat.le_refl _) ?_)
              intro w12 hrow12 hgr12
              have hB12 : Below w11.heap.size w11 w12 := (Below.refl _ w11).grown hgr12 (Nat.le_refl _) (fun k e => by cases e)
              have x12 : w12.cell? ⟨wi.heap.size, 2, none⟩ = some (.slice eo LE ec) := (hB12.cell (p := ⟨wi.heap.size, 2, none⟩) hxl11).trans x11
              have HR12 := hide hrow12
              have HB12 := hide hB12
              clear hrow12 hgr12 hB12 x11
              go_upto_block 6 with fail
              go_cut [16, 18] from 119 to 130 (fun v _ wc => (∃ g cp, v = .slice (some ⟨g, 0, none⟩) LE cp ∧ wc.ownsRow w11.heap.size 3 1 (.slice (some ⟨g, 0, none⟩) LE cp) LE (ints (eds.map (· % n)))) ∧ Below w11.heap.size w11 wc)
              case first =>
                go_wp2_with fail
                go_loopw [16, 119] (fun v x wr => ∃ (j g cp : Nat), j ≤ LE ∧ x = .int .i64 j ∧ v = .slice (some ⟨g, 0, none⟩) j cp ∧ Hid (wr.ownsRow w11.heap.size 3 1 (.slice (some ⟨g, 0, none⟩) j cp) j (ints ((eds.map (· % n)).take j))) ∧ Hid (Below w11.heap.size w11 wr)) (fun _ x _ => LE - (intOf x).toNat)
                case atStart => exact ⟨0, _, _, Nat.zero_le _, rfl, rfl, by simpa [ints] using HR12, HB12⟩
                case round =>
                  clear HR12 HB12 x12
                  obtain ⟨j, g, cp, hj, rfl, rfl, HOWN, HBj⟩ := hrel
                  by_cases hjl : j < LE
                  · obtain ⟨v, hv⟩ : ∃ v, eds[j]? = some v := ⟨_, List.getElem?_eq_getElem (by have := unhide HLE; omega)⟩
                    have hszj := (unhide HBj).size
                    obtain ⟨eb, eq, rfl, d0⟩ := edge_in (unhide HEA) ((unhide HB11).trans ((unhide HBj).mono hs11)) hv
                    have hv256 := unhide hed v (List.mem_of_getElem? hv)
                    obtain ⟨x, hx⟩ : ∃ x, v % n = x := ⟨_, rfl⟩
                    have hmod : (v : Int) % (n : Int) = (x : Int) := by rw [← hx]; simp
                    have HV : Hid ((eds.map (· % n))[j]? = some x) := hide (by simp [hv, hx])
                    have hgl := ownBlock_lt (unhide HOWN) g rfl
                    have hge := ownBlock_ge (unhide HOWN) g rfl
                    clear hv hx
                    go_wp2_with (at_builtin; refine wpList_append_lies _ rfl (.tmp 123) (.tmp 128) 40 rfl w11.heap.size 3 i3 (.int .i64 0) 1 8 Ybaf.underlying40 h3 z3a z3b z3c rfl (by decide) _ j _ rfl ((unhide HOWN).alloc _) ⟨wr.heap.size, 0, none⟩ 1 1 [.int .i64 x] rfl rfl (cell_one_new _ _ _) (by simp [Value.oneCell']) (by decide) (by unfold maxLen; omega) (by omega) (by simp; omega) _ rfl ?_)
                    intro g' cp' w13 hown13 hgrow13 _ _
                    have hT13 : Turns wr w13 (fun k => k = g) := ((Turns.refl wr _).alloc _).grown hgrow13 (fun k e => .inl (by simpa [Value.ownBlock] using e.symm))
                    have HB13 : Hid (Below w11.heap.size w11 w13) := hide ((unhide HBj).trans (hT13.to_below hszj (fun k e => by omega)))
                    have HOWN13 : Hid (w13.ownsRow w11.heap.size 3 1 (.slice (some ⟨g', 0, none⟩) (j + 1) cp') (j + 1) (ints ((eds.map (· % n)).take (j + 1)))) := hide (by rw [ints_take (unhide HV)]; simpa [ints, List.map_take] using hown13)
                    clear hT13 hown13 hgrow13 HOWN HBj
                    go_wp2
                    go_roundw
                    case rel => exact ⟨j + 1, g', cp', hjl, by simp, rfl, HOWN13, HB13⟩
                    case measure => go_light; simp [intOf]; omega
                  · obtain rfl : j = LE := by go_light; omega
                    go_wp2
                    go_meet
                    case rel =>
                      refine ⟨⟨g, cp, rfl, ?_⟩, unhide HBj⟩
                      have := unhide HOWN
                      rwa [List.take_of_length_le (by simp; exact Nat.le_of_eq (unhide HLE))] at this
              case rest =>
                obtain ⟨⟨g14, cp14, rfl, hrow14⟩, hB14⟩ := hcut
                obtain ⟨w14, hw14⟩ : ∃ w14, w14 = wc := ⟨_, rfl⟩
                subst hw14
                have hRB14 := (unhide HRB11).below hB14
                have hCB14 := (unhide HCB11).below hB14
                obtain ⟨v5, e5⟩ := hCB14.there hlt
                have f5 := hCB14.frozen i
                have hT15 : Turns w14 (w14.setCell ⟨cb, i, none⟩ (.slice (some ⟨g14, 0, none⟩) LE cp14)) (fun k => k = cb) := (Turns.refl w14 (fun k => k = cb)).setCell (p := ⟨cb, i, none⟩) (.inl rfl) _
                have HRB15 := hide (hRB14.keep hT15 (fun k cs t hk hb => by rw [hCB14.other_type k cs t hk hb]; exact ⟨by decide, by decide, by decide⟩))
                have HCB15 : Hid (CB (w14.setCell ⟨cb, i, none⟩ (.slice (some ⟨g14, 0, none⟩) LE cp14)) cb n (i + 1) (graphOf n D)) := hide (by
                  have hlen : (graphOf n D i).length = LE := by rw [unhide HGR]; simp; exact unhide HLE
                  have := hCB14.step (g := g14) (cap := cp14) (B := w11.heap.size) hlt (by rw [hlen, unhide HGR]; exact hrow14)
                  rw [hlen] at this
                  exact this)
                have HB15 : Hid (Below w.heap.size w (w14.setCell ⟨cb, i, none⟩ (.slice (some ⟨g14, 0, none⟩) LE cp14))) := hide (((unhide HB11).trans (hB14.mono hs11)).trans (hT15.to_below (by have := hB14.size; omega) (fun k e => by omega)))
                clear hRB14 hCB14 hT15 hrow14 hB14 HR12 HB12 x12 HRB11 HCB11 HX11 HB11
                go_wp2
                go_roundw
                case rel => exact ⟨i + 1, hlt, by simp, by rw [unhide HCNT]; simp, HRB15, HCB15, HB15⟩
                case measure => go_light; simp [intOf]; omega
        · obtain rfl : i = n := by go_light; omega
          go_wp2
          go_meet
          case rel => exact ⟨unhide HRB, unhide HCB, unhide HB⟩
    case rest =>
      obtain ⟨hRB, hCB, hB16⟩ := hcut
      obtain ⟨w16, hw16⟩ : ∃ w16, w16 = wc := ⟨_, rfl⟩
      subst hw16
      have HRB := hide hRB
      have HCB := hide hCB
      have HB16 := hide hB16
      have hsz16 := hB16.size
      clear hRB hCB hB16 HR3 HC3 HB3
      obtain ⟨mb, hmb⟩ : ∃ mb, w16.heap.size = mb := ⟨_, rfl⟩
      go_upto_region 40 with fail
      go_wp2_with (at_make; refine wpList_make_full _ rfl _ _ 41 rfl w16.heap.size 42 i42 _ 1 Ybaf.underlying41 h42 z42a z42b _ _ _ _ n rfl rfl rfl rfl (by rw [z42c]; omega) (by unfold maxLen; omega) (Nat.le_refl _) ?_)
      intro w17 hrow17 hgr17
      have HM17 : Hid (Memo w17 mb n (graphOf n D)) := hide (Memo.start hrow17)
      have HB17 : Hid (Below w16.heap.size w16 w17) := hide ((Below.refl _ w16).grown hgr17 (Nat.le_refl _) (fun k e => by cases e))
      clear hrow17 hgr17
      go_upto_block 8 with fail
      go_cut [20, 21, 22, 23, 24, 26, 27, 28] from 140 to 212 (fun v _ _ _ _ _ _ _ wc => WR wc w16.heap.size v (allOuts R (BdOf n D) n) ∧ Below w16.heap.size w16 wc)
      case first =>
        go_wp2_with fail
        go_loopw [20, 21, 140] (fun v t x wr => ∃ i : Nat, i ≤ n ∧ x = .int .i64 i ∧ t = .int .i64 (cnt D i : Nat) ∧ Hid (WR wr w16.heap.size v (allOuts R (BdOf n D) i)) ∧ Hid (Memo wr mb n (graphOf n D)) ∧ Hid (Below w16.heap.size w16 wr)) (fun _ _ x _ => n - (intOf x).toNat)
        case atStart => exact ⟨0, Nat.zero_le _, rfl, rfl, WR.nil _ _, HM17, HB17⟩
        case round =>
          clear HM17 HB17
          obtain ⟨wi, hwi⟩ : ∃ wi, wi = wr := ⟨_, rfl⟩
          subst hwi
          obtain ⟨i, hi, rfl, rfl, HW, HM, HB⟩ := hrel
          by_cases hlt : i < n
          · have hszi := (unhide HB).size
            obtain ⟨io, ic, eo, ec, c0, c1, c2, hia, _⟩ := rule_at (unhide HIN) ((unhide HB16).trans ((unhide HB).mono hsz16)) hlt
            have hl1 := unhide HLENS i hlt
            have hci : cnt D i + (D i).items.length ≤ 1024 := by
              have h1 := cnt_le D (i + 1)
              have h2 := sumTo_mono D (show i + 1 ≤ n from hlt)
              rw [unhide HS] at h2
              simp only [cnt] at h1
              omega
            have HIA := hide hia
            have hkd : Hid (∀ it ∈ (D i).items, it.knd < 256 ∧ it.tgt < 256) := hide (fun it h => ⟨(unhide HD).knd i hlt it h, (unhide HD).tgt i hlt it h⟩)
            have HW0 : Hid (WR wi w16.heap.size _ (wantTo R n D i 0)) := hide (by rw [wantTo_zero]; exact unhide HW)
            obtain ⟨LI, hLI⟩ : ∃ LI, (D i).items.length = LI := ⟨_, rfl⟩
            obtain ⟨LE, hLE⟩ : ∃ LE, (D i).edges.length = LE := ⟨_, rfl⟩
            have HALL : Hid (wantTo R n D i LI = allOuts R (BdOf n D) (i + 1)) := hide (by rw [← hLI]; exact wantTo_all R n D i)
            have HCNT : Hid (cnt D (i + 1) = cnt D i + LI) := hide (by simp only [cnt, hLI])
            have HST0 : Hid (stopped (D i).ch (itemsX n (cnt D i) (D i).items) 0 = false) := hide (by simp [stopped])
            obtain ⟨CI, hCI⟩ : ∃ CI, cnt D i = CI := ⟨_, rfl⟩
            obtain ⟨CH, hCH⟩ : ∃ CH, (D i).ch = CH := ⟨_, rfl⟩
            rw [hLI] at hl1 hci c1
            rw [hLE] at c2
            rw [hCI] at hci ⊢
            rw [hCH] at c0
            obtain ⟨hl2, _⟩ := hl1
            have HLI := hide hLI
            have HCI := hide hCI
            have HCH := hide hCH
            clear hia hLI hLE hCI hCH HW
            go_upto_region 46 with fail
            have hX18 := Blk.new wi #[.bool CH, .slice io LI ic, .slice eo LE ec] 26
            have hB18 : Below wi.heap.size wi (wi.alloc (.cells #[.bool CH, .slice io LI ic, .slice eo LE ec] 26)) := (Below.refl _ wi).alloc (Nat.le_refl _) _
            obtain ⟨w18, hw18⟩ : ∃ w18, wi.alloc (.cells #[.bool CH, .slice io LI ic, .slice eo LE ec] 26) = w18 := ⟨_, rfl⟩
            rw [hw18] at hX18 hB18 ⊢
            have x1 := hX18.cell 1 rfl
            have HX18 := hide hX18
            have HW18 := hide ((unhide HW0).below hB18)
            have HM18 := hide ((unhide HM).below hB18)
            have HB18 := hide ((unhide HB).trans (hB18.mono hszi))
            have hxr18 := hX18.lt
            clear hX18 hB18 hw18 c0 c1 c2 HW0 HM HB
            go_wp2_with fail
            go_loopw [20, 21, 24, 148] (fun v t s x wr => ∃ (j : Nat) (st : Bool), j ≤ LI ∧ x = .int .i64 j ∧ t = .int .i64 (CI + j : Nat) ∧ s = .bool st ∧ Hid (stopped CH (itemsX n CI (D i).items) j = st) ∧ Hid (WR wr w16.heap.size v (wantTo R n D i j)) ∧ Hid (Memo wr mb n (graphOf n D)) ∧ Hid (Blk wr wi.heap.size #[.bool CH, .slice io LI ic, .slice eo LE ec] 26) ∧ Hid (Below w16.heap.size w16 wr)) (fun _ _ _ x _ => LI - (intOf x).toNat)
            case atStart => exact ⟨0, false, Nat.zero_le _, rfl, rfl, rfl, by rw [← unhide HCH, ← unhide HCI]; exact HST0, HW18, HM18, HX18, HB18⟩
            case round =>
              clear HW18 HM18 HX18 HB18 x1 HST0
              obtain ⟨j, st, hj, rfl, rfl, rfl, HST, HW, HM, HX, HBj⟩ := hrel
              by_cases hjl : j < LI
              · obtain ⟨it, hit⟩ : ∃ it, (D i).items[j]? = some it := ⟨_, List.getElem?_eq_getElem (by have := unhide HLI; omega)⟩
                have hszj := (unhide HBj).size
                have hBwr : Below w.heap.size w wr := (unhide HB16).trans ((unhide HBj).mono hsz16)
                obtain ⟨ib, iq, rfl, d0, d1, d2⟩ := item_in (unhide HIA) hBwr hit
                obtain ⟨hk256, ht256⟩ := unhide hkd it (List.mem_of_getElem? hit)
                have hnx : stopped CH (itemsX n CI (D i).items) (j + 1) = (st || (!CH && !it.em)) := by rw [stopped_next (itemsX_get hit), unhide HST]; rfl
                have hon : st = false → wantTo R n D i (j + 1) = wantTo R n D i j ++ outOf R i (lookOf (it.knd % 6) (it.tgt % n) ((CI + j + 1 : Nat) : Int)) := by
                  intro e
                  have := wantTo_on (R := R) hit (by rw [unhide HCH, unhide HCI, unhide HST]; exact e)
                  rw [unhide HCI] at this
                  exact this
                have hoff : st = true → wantTo R n D i (j + 1) = wantTo R n D i j := by
                  intro e
                  exact wantTo_stop hit (by rw [unhide HCH, unhide HCI, unhide HST]; exact e)
                obtain ⟨kd, tg, em⟩ := it
                simp only at d0 d1 d2 hk256 ht256 hnx hon
                have HNX := hide hnx
                have HON := hide hon
                have HOFF := hide hoff
                have HBWR := hide hBwr
                clear hnx hon hoff hit hBwr
                go_upto_if 154 with fail
                have hY20 := Blk.new wr #[.int .u8 kd, .int .u8 tg, .bool em] 31
                have hB20 : Below wr.heap.size wr (wr.alloc (.cells #[.int .u8 kd, .int .u8 tg, .bool em] 31)) := (Below.refl _ wr).alloc (Nat.le_refl _) _
                obtain ⟨w20, hw20⟩ : ∃ w20, wr.alloc (.cells #[.int .u8 kd, .int .u8 tg, .bool em] 31) = w20 := ⟨_, rfl⟩
                rw [hw20] at hY20 hB20 ⊢
                have hX20 := (unhide HX).below hB20 (unhide HX).lt
                have HY20 := hide hY20
                have HX20 := hide hX20
                have HW20 := hide ((unhide HW).below hB20)
                have HM20 := hide ((unhide HM).below hB20)
                have HB20 := hide ((unhide HBj).trans (hB20.mono hszj))
                have hyl := hY20.lt
                have hxl20 := hX20.lt
                have y0 := hY20.cell 0 rfl
                have y1 := hY20.cell 1 rfl
                have y2 := hY20.cell 2 rfl
                have xc := hX20.cell 0 rfl
                have hs20 := (unhide HB20).size
                clear hY20 hB20 hX20 hw20 d0 d1 d2 HX HW HM HBj HBWR
                obtain ⟨P, hP⟩ : ∃ P : Nat, CI + j + 1 = P := ⟨_, rfl⟩
                have hpe : (CI : Int) + (j : Int) + 1 = (P : Int) := by omega
                have hPb : P ≤ 2000 := by omega
                have HPJ : Hid (P = CI + (j + 1)) := hide (by omega)
                rw [hpe]
                rw [hP] at HON
                cases st with
                | true =>
                  have HW21 := HW20
                  rw [← unhide HOFF rfl] at HW21
                  have HST1 : Hid (stopped CH (itemsX n CI (D i).items) (j + 1) = true) := hide (by rw [unhide HNX]; rfl)
                  go_wp2
                  go_roundw
                  case rel => exact ⟨j + 1, true, hjl, by simp, by rw [unhide HPJ], rfl, HST1, HW21, HM20, HX20, HB20⟩
                  case measure => go_light; simp [intOf]; omega
                | false =>
                  have hon := unhide HON rfl
                  obtain ⟨x, hx⟩ : ∃ x, tg % n = x := ⟨_, rfl⟩
                  have hxn : x < n := by rw [← hx]; exact Nat.mod_lt _ hn0
                  have hmod : (tg : Int) % (n : Int) = (x : Int) := by rw [← hx]; simp
                  obtain ⟨k, hk⟩ : ∃ k, kd % 6 = k := ⟨_, rfl⟩
                  have hk6 : k < 6 := by omega
                  have hkm : (kd : Int) % 6 = (k : Int) := by omega
                  rw [hx, hk] at hon
                  have HON1 := hide hon
                  clear hon HON HOFF hx hk
                  go_upto_region 54 with fail
                  simp only [hkm, hmod]
                  go_cut [173] from 164 to 172 (fun t wc => t = .bool (decide (k = 2 ∨ k = 3 ∨ k = 5)) ∧ w20 = wc)
                  case first =>
                    have hkc : k = 0 ∨ k = 1 ∨ k = 2 ∨ k = 3 ∨ k = 4 ∨ k = 5 := by omega
                    rcases hkc with rfl | rfl | rfl | rfl | rfl | rfl
                    all_goals
                      go_wp2
                      go_meet
                      case rel => exact ⟨rfl, rfl⟩
                  case rest =>
                    obtain ⟨rfl, rfl⟩ := hcut
                    go_upto_if 173 with fail
                    go_cut [20] from 173 to 202 (fun v wc => WR wc w16.heap.size v (wantTo R n D i (j + 1)) ∧ Memo wc mb n (graphOf n D) ∧ Blk wc wi.heap.size #[.bool CH, .slice (some ⟨ib, iq, none⟩) LI ic, .slice eo LE ec] 26 ∧ Blk wc wr.heap.size #[.int .u8 kd, .int .u8 tg, .bool em] 31 ∧ Below w16.heap.size w16 wc)
                    case first =>
                      by_cases hc : k = 2 ∨ k = 3 ∨ k = 5
                      · have hd : decide (k = 2 ∨ k = 3 ∨ k = 5) = true := decide_eq_true hc
                        have hout := out_yes (R := R) (i := i) (x := x) (p := (P : Int)) hc
                        rw [hd]
                        have HOUT := hide hout
                        clear hout hd
                        have hnil0 := fun w => Lib.run_eql_slice_nil (P := Ybaf.prog) w 42 4 none 0 0 0 0 Ybaf.underlying42
                        have hnil1 := fun w g => Lib.run_eql_slice_nil (P := Ybaf.prog) w 42 4 (some ⟨g, 0, none⟩) n n 0 0 Ybaf.underlying42
                        go_upto_region 55 with fail
                        go_cut [178] from 174 to 177 (fun t wc => ∃ z : Bool, t = .bool z ∧ w20 = wc ∧ (z = true → w20.cell? ⟨mb, x, none⟩ = some (.slice none 0 0)) ∧ (z = false → ∃ g m, w20.cell? ⟨mb, x, none⟩ = some (.slice (some ⟨g, 0, none⟩) n n) ∧ Blk w20 g (bools m) 4 ∧ Marks (graphOf n D) x n m))
                        case first =>
                          rcases (unhide HM20).get hxn with cm | ⟨g, m, cm, hg, hm⟩
                          · go_wp2
                            go_meet
                            case rel => exact ⟨true, rfl, rfl, fun _ => cm, fun h => by cases h⟩
                          · have HG := hide hg
                            have HMm := hide hm
                            clear hg hm
                            go_wp2
                            go_meet
                            case rel => exact ⟨false, rfl, rfl, (fun h => by cases h), fun _ => ⟨g, m, cm, unhide HG, unhide HMm⟩⟩
                        case rest =>
                          obtain ⟨z, rfl, rfl, hz1, hz2⟩ := hcut
                          have HZ1 := hide hz1
                          have HZ2 := hide hz2
                          clear hz1 hz2
                          go_upto_if 178 with fail
                          go_cut [] from 178 to 184 (fun wc => (∃ g m, wc.cell? ⟨mb, x, none⟩ = some (.slice (some ⟨g, 0, none⟩) n n) ∧ Blk wc g (bools m) 4 ∧ Marks (graphOf n D) x n m) ∧ WR wc w16.heap.size u20 (wantTo R n D i j) ∧ Memo wc mb n (graphOf n D) ∧ Blk wc wi.heap.size #[.bool CH, .slice (some ⟨ib, iq, none⟩) LI ic, .slice eo LE ec] 26 ∧ Blk wc wr.heap.size #[.int .u8 kd, .int .u8 tg, .bool em] 31 ∧ Below w16.heap.size w16 wc)
                          case first =>
                            cases z with
                            | false =>
                              have HZ3 := hide (unhide HZ2 rfl)
                              go_wp2
                              go_meet
                              case rel => exact ⟨unhide HZ3, unhide HW20, unhide HM20, unhide HX20, unhide HY20, unhide HB20⟩
                            | true =>
                              have cRC := reach_calls ab q n x cap D w20 hxn (by omega) ((unhide HIN).below ((unhide HB16).trans ((unhide HB20).mono hsz16))) (fun u hu => (unhide HLENS u hu).2) (unhide HD).edge
                              have CRC := hide cRC
                              clear cRC
                              go_wp2_with fail
                              refine (unhide CRC).mono ?_
                              rintro e w21 ⟨m, hm, rfl, hg21, hb21⟩
                              have hM21 := (unhide HM20).below hb21
                              have hW21 := (unhide HW20).below hb21
                              have hX21 := (unhide HX20).below hb21 hxl20
                              have hY21 := (unhide HY20).below hb21 hyl
                              obtain ⟨v6, e6⟩ : ∃ v, w21.cell? ⟨mb, x, none⟩ = some v := by
                                rcases hM21.get hxn with h | ⟨_, _, h, _⟩
                                · exact ⟨_, h⟩
                                · exact ⟨_, h⟩
                              have f6 := hM21.frozen x
                              obtain ⟨s1, s2, s3, s4, s5, s6⟩ := memo_set hM21 hxn hg21 hm hW21 hX21 hY21 ((unhide HB20).trans (hb21.mono hs20)) (by have := hb21.size; omega) (by omega)
                              have S1 := hide s1
                              have S2 := hide s2
                              have S3 := hide s3
                              have S4 := hide s4
                              have S5 := hide s5
                              have S6 := hide s6
                              clear hM21 hW21 hX21 hY21 hg21 hm hb21 s1 s2 s3 s4 s5 s6 CRC
                              go_wp2
                              go_meet
                              case rel => exact ⟨⟨_, m, unhide S1⟩, unhide S2, unhide S3, unhide S4, unhide S5, unhide S6⟩
                          case rest =>
                            obtain ⟨⟨g, m, cm, hg, hm⟩, hW23, hM23, hX23, hY23, hB23⟩ := hcut
                            obtain ⟨w23, hw23⟩ : ∃ w23, w23 = wc := ⟨_, rfl⟩
                            subst hw23
                            obtain ⟨b, hbb⟩ := marks_get hm.1 hlt
                            have cg : w23.cell? ⟨g, i, none⟩ = some (.bool b) := hg.cell i (bools_get hbb)
                            have hRb : R x i = b := by
                              have h1 := (marks_are hm.1 hm.2.1 hm.2.2.1 hm.2.2.2 i hlt).2
                              have h2 := unhide HR x i hxn hlt
                              cases b with
                              | true => exact h2.2 (h1.1 hbb)
                              | false =>
                                cases hr : R x i with
                                | false => rfl
                                | true => rw [h1.2 (h2.1 hr)] at hbb; cases hbb
                            have hs23 := hB23.size
                            have HW23 := hide hW23
                            have HM23 := hide hM23
                            have HX23 := hide hX23
                            have HY23 := hide hY23
                            have HB23 := hide hB23
                            have hlen : (wantTo R n D i j).length ≤ 1024 := by have := wantTo_len R n D i j; rw [unhide HCI, unhide HLI] at this; omega
                            clear hg hm hW23 hM23 hX23 hY23 hB23 HZ1 HZ2 HW20 HM20 HX20 HY20 HB20 hnil0 hnil1 hbb y0 y1 y2 xc
                            cases b with
                            | false =>
                              have e := unhide HON1
                              rw [unhide HOUT, hRb] at e
                              simp only [Bool.false_eq_true, if_false, List.append_nil] at e
                              rw [← e] at HW23
                              clear e hRb
                              go_wp2
                              go_meet
                              case rel => exact ⟨unhide HW23, unhide HM23, unhide HX23, unhide HY23, unhide HB23⟩
                            | true =>
                              have e := unhide HON1
                              rw [unhide HOUT, hRb] at e
                              simp only [if_true] at e
                              have HE1 := hide e
                              obtain ⟨l, hl⟩ : ∃ l, wantTo R n D i j = l := ⟨_, rfl⟩
                              rw [hl] at HW23 HE1 hlen
                              obtain ⟨ll, hll⟩ : ∃ ll, l.length = ll := ⟨_, rfl⟩
                              have HOW : Hid (w23.ownsRow w16.heap.size 3 1 u20 ll (zints l)) := hide (by rw [← hll]; exact unhide HW23)
                              rw [hll] at hlen
                              have HLL := hide hll
                              clear e hRb hl hll HON1 HOUT
                              by_cases h5 : k = 5
                              · subst h5
                                have e2 := unhide HE1
                                rw [if_pos rfl] at e2
                                have HE2 := hide e2
                                clear e2 HE1
                                go_wp2_with (at_builtin; refine wpList_append_lies _ rfl (.tmp 194) (.tmp 197) 40 rfl w16.heap.size 3 i3 (.int .i64 0) 1 8 Ybaf.underlying40 h3 z3a z3b z3c rfl (by decide) _ ll _ rfl ((unhide HOW).alloc _) ⟨w23.heap.size, 0, none⟩ 1 1 [.int .i64 (-(P : Int))] rfl rfl (cell_one_new _ _ _) (by simp [Value.oneCell']) (by decide) (by unfold maxLen; omega) (by omega) (by simp; omega) _ rfl ?_)
                                intro g' cp' w24 hown24 hgrow24 _ _
                                obtain ⟨s1, s2, s3, s4, s5⟩ := want_end (unhide HW23) hgrow24 (by rw [unhide HLL, hmb]; exact hown24) (unhide HM23) (unhide HX23) (unhide HY23) (unhide HB23) hs23
                                rw [← unhide HE2] at s1
                                have S1 := hide s1
                                have S2 := hide s2
                                have S3 := hide s3
                                have S4 := hide s4
                                have S5 := hide s5
                                clear s1 s2 s3 s4 s5 hown24 hgrow24 HOW HW23 HM23 HX23 HY23 HB23
                                go_wp2
                                go_meet
                                case rel => exact ⟨unhide S1, unhide S2, unhide S3, unhide S4, unhide S5⟩
                              · have h5' : ((k : Int) == 5) = false := beq_eq_false_iff_ne.2 (by omega)
                                have e2 := unhide HE1
                                rw [if_neg h5] at e2
                                have HE2 := hide e2
                                clear e2 HE1
                                go_wp2_with (at_builtin; refine wpList_append_lies _ rfl (.tmp 199) (.tmp 201) 40 rfl w16.heap.size 3 i3 (.int .i64 0) 1 8 Ybaf.underlying40 h3 z3a z3b z3c rfl (by decide) _ ll _ rfl ((unhide HOW).alloc _) ⟨w23.heap.size, 0, none⟩ 1 1 [.int .i64 (P : Int)] rfl rfl (cell_one_new _ _ _) (by simp [Value.oneCell']) (by decide) (by unfold maxLen; omega) (by omega) (by simp; omega) _ rfl ?_)
                                intro g' cp' w24 hown24 hgrow24 _ _
                                obtain ⟨s1, s2, s3, s4, s5⟩ := want_end (unhide HW23) hgrow24 (by rw [unhide HLL, hmb]; exact hown24) (unhide HM23) (unhide HX23) (unhide HY23) (unhide HB23) hs23
                                rw [← unhide HE2] at s1
                                have S1 := hide s1
                                have S2 := hide s2
                                have S3 := hide s3
                                have S4 := hide s4
                                have S5 := hide s5
                                clear s1 s2 s3 s4 s5 hown24 hgrow24 HOW HW23 HM23 HX23 HY23 HB23
                                go_wp2
                                go_meet
                                case rel => exact ⟨unhide S1, unhide S2, unhide S3, unhide S4, unhide S5⟩
                      · have hd : decide (k = 2 ∨ k = 3 ∨ k = 5) = false := decide_eq_false hc
                        have HW21 := HW20
                        have e := unhide HON1
                        rw [out_no hk6 hc, List.append_nil] at e
                        rw [← e] at HW21
                        rw [hd]
                        clear e hd
                        go_wp2
                        go_meet
                        case rel => exact ⟨unhide HW21, unhide HM20, unhide HX20, unhide HY20, unhide HB20⟩
                    case rest =>
                      obtain ⟨hW22, hM22, hX22, hY22, hB22⟩ := hcut
                      have y3 := hY22.cell 2 rfl
                      have xc3 := hX22.cell 0 rfl
                      have HW22 := hide hW22
                      have HM22 := hide hM22
                      have HX22 := hide hX22
                      have HB22 := hide hB22
                      clear hW22 hM22 hX22 hY22 hB22 HW20 HM20 HX20 HB20 HY20 y0 y1 y2 xc
                      cases CH with
                      | true =>
                        have HST1 : Hid (stopped true (itemsX n CI (D i).items) (j + 1) = false) := hide (by rw [unhide HNX]; simp)
                        go_wp2
                        go_roundw
                        case rel => exact ⟨j + 1, false, hjl, by simp, by rw [unhide HPJ], rfl, HST1, HW22, HM22, HX22, HB22⟩
                        case measure => go_light; simp [intOf]; omega
                      | false =>
                        cases em with
                        | true =>
                          have HST1 : Hid (stopped false (itemsX n CI (D i).items) (j + 1) = false) := hide (by rw [unhide HNX]; simp)
                          go_wp2
                          go_roundw
                          case rel => exact ⟨j + 1, false, hjl, by simp, by rw [unhide HPJ], rfl, HST1, HW22, HM22, HX22, HB22⟩
                          case measure => go_light; simp [intOf]; omega
                        | false =>
                          have HST1 : Hid (stopped false (itemsX n CI (D i).items) (j + 1) = true) := hide (by rw [unhide HNX]; simp)
                          go_wp2
                          go_roundw
                          case rel => exact ⟨j + 1, true, hjl, by simp, by rw [unhide HPJ], rfl, HST1, HW22, HM22, HX22, HB22⟩
                          case measure => go_light; simp [intOf]; omega
              · obtain rfl : j = LI := by go_light; omega
                have HW19 := HW
                rw [unhide HALL] at HW19
                go_wp2
                go_roundw
                case rel => exact ⟨i + 1, hlt, by simp, by rw [unhide HCNT, unhide HCI], HW19, HM, HBj⟩
                case measure => go_light; simp [intOf]; omega
          · obtain rfl : i = n := by go_light; omega
            go_wp2
            go_meet
            case rel => exact ⟨unhide HW, unhide HB⟩
      case rest =>
        obtain ⟨hW25, hB25⟩ := hcut
        obtain ⟨w25, hw25⟩ : ∃ w25, w25 = wc := ⟨_, rfl⟩
        subst hw25
        have hB25w : Below w.heap.size w w25 := (unhide HB16).trans (hB25.mono hsz16)
        have hs25 := hB25w.size
        have cP := paradox_calls F rb cb n R (graphOf n D) (BdOf n D) w25 (by rw [hB25w.tape]; exact unhide HF) (by omega) (graph_lt hn0) (fun u hu => by simp only [graphOf, List.length_map]; exact (unhide HLENS u hu).2) (unhide HR) ((unhide HCB).below hB25).graph ((unhide HCB).below hB25).lt ((unhide HRB).below hB25).rules (fun i _ => ok_items hn0) (by rw [total_cnt]; have := cnt_le D n; rw [unhide HS] at this; omega)
        have CP := hide cP
        obtain ⟨A, hA⟩ : ∃ A, allOuts R (BdOf n D) n = A := ⟨_, rfl⟩
        have hAl : A.length ≤ 1024 := by
          have h1 := allOuts_len R (BdOf n D) n
          have h2 := cnt_le D n
          rw [total_cnt, hA] at h1
          rw [unhide HS] at h2
          omega
        rw [hA] at hW25
        obtain ⟨N, hN⟩ : ∃ N, A.length = N := ⟨_, rfl⟩
        have hrowW : w25.ownsRow w16.heap.size 3 1 u20 N (zints A) := by rw [← hN]; exact hW25
        obtain ⟨ao2, cp2, hu⟩ := row_len hrowW
        subst hu
        rw [hN] at hAl
        have HA := hide hA
        have HN := hide hN
        have HRW := hide hrowW
        have HB25 := hide hB25w
        clear cP hA hN hrowW hW25 hB25 hB25w HM17 HB17
        go_wp2_with fail
        refine (unhide CP).mono ?_
        rintro e w26 ⟨l, v, rfl, hl, hrow, hb26⟩
        have hln : l.length = N := by rw [← unhide HN, ← unhide HA, ← hl]; simp
        rw [hln] at hrow
        obtain ⟨ao1, cp1, hv⟩ := row_len hrow
        subst hv
        have HL := hide hl
        have HLN := hide hln
        have HRG := hide hrow
        have HRW6 := hide (row_turns (unhide HRW) (Turns.of_below hb26 (fun _ => False)) (fun _ _ h => h))
        have HB26 := hide ((unhide HB25).trans (hb26.mono hs25))
        clear hl hln hrow hb26 CP HRW HB25
        go_wp2_with fail
        go_loopw [223] (fun x wr => ∃ (k d : Nat), k ≤ N ∧ x = .int .i64 k ∧ wr = w26.drewN d) (fun x _ => N - (intOf x).toNat)
        case atStart => exact ⟨0, 0, Nat.zero_le _, rfl, rfl⟩
        case round =>
          obtain ⟨k, d, hk, rfl, rfl⟩ := hrel
          by_cases hkn : k < N
          · obtain ⟨g1, c1, e1, _, _⟩ := row_pos (unhide HRG) (by omega)
            obtain ⟨g2, c2, e2, _, _⟩ := row_pos (unhide HRW6) (by omega)
            cases e1
            cases e2
            obtain ⟨a, ha⟩ : ∃ a, A[k]? = some a := ⟨_, List.getElem?_eq_getElem (by have := unhide HN; omega)⟩
            obtain ⟨pm, hpm⟩ : ∃ pm, l[k]? = some pm := ⟨_, List.getElem?_eq_getElem (by have := unhide HLN; omega)⟩
            have hpa : pm.1 = a := by
              have h1 := unhide HL
              rw [unhide HA] at h1
              rw [← h1] at ha
              simpa [hpm] using ha
            have d1 : w26.cell? ⟨g1, k * 2, none⟩ = some (.int .i64 a) := by rw [← hpa]; exact row_cells (unhide HRG) _ _ (frow_get hpm)
            have d2 : w26.cell? ⟨g2, k, none⟩ = some (.int .i64 a) := row_cells (unhide HRW6) _ _ (by simp [ha])
            clear ha hpm hpa
            go_wp2_with fail
            go_quiet (fail)
            go_wp2
            go_roundw
            case rel => exact ⟨k + 1, _, hkn, by simp, rfl⟩
            case measure => go_light; simp [intOf]; omega
          · obtain rfl : k = N := by go_light; omega
            go_wp2
            go_ret
            exact ⟨rfl, below_drewN (unhide HB26) d⟩
end Go.Proofs.YbulkblmiFmt
