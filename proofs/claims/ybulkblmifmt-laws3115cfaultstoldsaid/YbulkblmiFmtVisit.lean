/-
  What lookaheadParadoxes does at one expression.
-/
import Derived.Test.YbulkblmiFmtLeft
import Derived.Test.YbulkblmiFmtFacts
import Derived.Deep.RegionWith
import Derived.WalkSpells
import Derived.Deep.CutRange
import Derived.Deep.CutBlock
namespace Go.Proofs.YbulkblmiFmt
open Go.RowKit Go.Extern.Stop Go.Stop Go.Extern

theorem info47 : (Ybaf.prog.info? 47).map (fun i => (i.zero, i.size, i.bytes)) = some (some (.agg #[.int .i64 0, .string ⟨#[]⟩]), 2, 24) := by kernel_rfl

/-- The faults' cells. -/
def frow (l : List (Int × ByteArray)) : List Value := l.flatMap fun p => [.int .i64 p.1, .string p.2]
theorem frow_length (l : List (Int × ByteArray)) : (frow l).length = l.length * 2 := by
  induction l with
  | nil => rfl
  | cons a r ih => simp [frow] at ih ⊢; omega
theorem frow_append (l m : List (Int × ByteArray)) : frow (l ++ m) = frow l ++ frow m := by simp [frow]

/-- The faults so far: their positions are ps. -/
def Faults (w : World) (fc B : Nat) (ps : List Int) : Prop := ∃ (l : List (Int × ByteArray)) (v : Value), l.map Prod.fst = ps ∧ Blk w fc #[v] 44 ∧ w.ownsRow B 47 2 v l.length (frow l)

/-- What the closure has captured, beside the faults. -/
structure Ctx (w : World) (cc ic rc cb n i : Nat) (E : Nat → List Nat) : Prop where
  calls : Blk w cc #[.slice (some ⟨cb, 0, none⟩) n n] 28
  idx : Blk w ic #[.int .i64 i] 3
  rule : ∃ (nm : ByteArray) (x y z u : Value), Blk w rc #[.string nm, x, y, z, u] 39
  graph : Graph w cb n E

theorem p8_skip (b cc ic rc fc : Nat) (op : Int) (w : World) (hop : op = 0 ∨ op = 1 ∨ op = 2 ∨ op = 5 ∨ op = 6) (h0 : w.cell? ⟨b, 0, none⟩ = some (.int .u8 op)) :
    Calls Ybaf.prog 8 #[.pointer (some ⟨b, 0, none⟩), .pointer (some ⟨cc, 0, none⟩), .pointer (some ⟨ic, 0, none⟩), .pointer (some ⟨rc, 0, none⟩), .pointer (some ⟨fc, 0, none⟩)] w fun r w' => r = .returned (.tuple #[]) ∧ w' = w := by
  rcases hop with rfl | rfl | rfl | rfl | rfl
  all_goals
    go_enter Ybaf.func8, Ybaf.ntmps8
    go_wp2
    refine bodyPost_ret (results_none rfl _ _ _) rfl ?_
    exact ⟨rfl, rfl⟩

attribute [local go_sem] call11 guard_ok op9_115 msgF_p msgF_r

/-- What leftCalls and reachable tell of a lookahead's inside: no call, or the call of t. -/
def Leaf (w : World) (s : Nat) (c : Option Nat) : Prop := match c with
  | some t => ∃ pos subs sub empty, EX w s 5 pos subs sub t empty
  | none => ∃ pos subs sub rule empty, EX w s 2 pos subs sub rule empty

theorem two_new (w : World) (x y : Value) (t : TypeId) : ∀ j u, [x, y][j]? = some u → (w.alloc (.cells #[x, y] t)).cell? ((⟨w.heap.size, 0, none⟩ : Addr).add j) = some u := by
  intro j u hu
  rw [Addr.add_lit, Nat.zero_add]
  exact (Blk.new w #[x, y] t).cell j (by simpa using hu)

/-- The captured cells behind turns that meet the faults alone. -/
theorem ctx_keep {w w' : World} {cc ic rc cb n i : Nat} {E : Nat → List Nat} {T : Nat → Prop} (h : Ctx w cc ic rc cb n i E) (ht : Turns w w' T) (hT : ∀ k cs t, T k → Blk w k cs t → t = 47 ∨ t = 44) (hcb : ¬ T cb) : Ctx w' cc ic rc cb n i E := by
  have hno : ∀ {k : Nat} {cs : Array Value} {t : TypeId}, Blk w k cs t → t ≠ 47 → t ≠ 44 → ¬ T k := fun hb h1 h2 hk => (hT _ _ _ hk hb).elim h1 h2
  obtain ⟨nm, x, y, z, u, hr⟩ := h.rule
  refine ⟨h.calls.turns ht (hno h.calls (by decide) (by decide)), h.idx.turns ht (hno h.idx (by decide) (by decide)), ⟨nm, x, y, z, u, hr.turns ht (hno hr (by decide) (by decide))⟩, ?_⟩
  intro u hu
  obtain ⟨g, cap, B', h1, h2⟩ := h.graph u hu
  refine ⟨g, cap, B', ?_, ?_⟩
  · rw [← h1]; exact ht.cell (World.block_lt_of_cell? w _ h1) hcb
  · refine row_turns h2 ht (fun k hk => ?_)
    obtain ⟨hl, (⟨h, _⟩ | ⟨g', cap', cur, hv, hg, hgb, _⟩)⟩ := h2
    · cases h
    · cases hv
      simp [Value.ownBlock] at hk
      subst hk
      exact hno (show Blk w g cur 3 from hgb) (by decide) (by decide)
theorem ctx_row {w w' : World} {cc ic rc cb n i B m : Nat} {E : Nat → List Nat} {v : Value} {xs : List Value} (h : Ctx w cc ic rc cb n i E) (ht : Turns w w' (fun k => v.ownBlock = some k)) (hr : w.ownsRow B 47 2 v m xs) (hcb : cb < B) : Ctx w' cc ic rc cb n i E := by
  refine ctx_keep h ht (fun k cs t hk hb => ?_) (fun hk => ?_)
  · by_cases ht : t = 47
    · exact .inl ht
    · exact absurd hk.symm (row_block_ne hb hr ht)
  · have := ownBlock_ge hr cb hk; omega
theorem ctx_set {w : World} {cc ic rc cb n i fc : Nat} {E : Nat → List Nat} {cs : Array Value} (h : Ctx w cc ic rc cb n i E) (hf : Blk w fc cs 44) (hcb : cb ≠ fc) (v : Value) : Ctx (w.setCell ⟨fc, 0, none⟩ v) cc ic rc cb n i E := by
  refine ctx_keep h (T := fun k => k = fc) ((Turns.refl w (fun k => k = fc)).setCell (p := ⟨fc, 0, none⟩) (.inl rfl) v) (fun k cs' t hk hb => ?_) (fun e => hcb e)
  subst hk
  have := (show w.heap[k]? = _ from hb).symm.trans hf
  simp at this
  exact .inr this.2
theorem ctx_turns {w w' : World} {cc ic rc cb n i : Nat} {E : Nat → List Nat} {T : Nat → Prop} (h : Ctx w cc ic rc cb n i E) (ht : Turns w w' T) (hT : ∀ k, ¬ T k) : Ctx w' cc ic rc cb n i E :=
  ctx_keep h ht (fun k _ _ hk _ => absurd hk (hT k)) (hT cb)

/-- What leftCalls gave. -/
def LV (w : World) (v : Value) (c : Option Nat) : Prop := match c with
  | some t => ∃ g cap, v = .slice (some ⟨g, 0, none⟩) 1 cap ∧ w.cell? ⟨g, 0, none⟩ = some (.int .i64 (t : Nat))
  | none => v = .slice none 0 0
/-- The marks of a search from what leftCalls gave. -/
def MarksC (E : Nat → List Nat) (c : Option Nat) (n : Nat) (m : List Bool) : Prop := match c with
  | some t => Marks E t n m
  | none => m = List.replicate n false

theorem MarksC.len {E : Nat → List Nat} {c : Option Nat} {n : Nat} {m : List Bool} (h : MarksC E c n m) : m.length = n := by
  cases c with
  | some t => exact h.1
  | none => rw [show m = _ from h]; simp

theorem left_any (s : Nat) (c : Option Nat) (w : World) (h : Leaf w s c) :
    Calls Ybaf.prog 10 #[.pointer (some ⟨s, 0, none⟩)] w fun r w' => ∃ v, r = .returned v ∧ LV w' v c ∧ Below w.heap.size w w' := by
  cases c with
  | some t =>
    obtain ⟨pos, subs, sub, em, he⟩ := h
    refine (left_call s t pos subs sub em w he).mono ?_
    rintro r w' ⟨g, cap, rfl, hg, hb⟩
    exact ⟨_, rfl, ⟨g, cap, rfl, hg⟩, hb⟩
  | none =>
    obtain ⟨pos, subs, sub, rule, em, he⟩ := h
    refine (left_lit s pos rule subs sub em w he).mono ?_
    rintro r w' ⟨rfl, hb⟩
    exact ⟨_, rfl, rfl, hb⟩

theorem reachable_any (cb n : Nat) (c : Option Nat) (v : Value) (E : Nat → List Nat) (w : World) (hc : ∀ t, c = some t → t < n) (hn : n ≤ 256) (hE : ∀ u, u < n → ∀ v ∈ E u, v < n) (hEl : ∀ u, u < n → (E u).length ≤ 1024) (hG : Graph w cb n E) (hv : LV w v c) :
    Calls Ybaf.prog 9 #[.slice (some ⟨cb, 0, none⟩) n n, v] w fun r w' => ∃ m, MarksC E c n m ∧ r = .returned (.slice (some ⟨w.heap.size, 0, none⟩) n n) ∧ Blk w' w.heap.size (bools m) 4 ∧ Below w.heap.size w w' := by
  cases c with
  | some t =>
    obtain ⟨g, cap, rfl, hg⟩ := hv
    exact reachable_calls cb n t g cap E w (hc t rfl) hn hE hEl hG hg
  | none =>
    obtain rfl := hv
    refine (reachable_none cb n w hn).mono ?_
    rintro r w' ⟨rfl, h1, h2⟩
    exact ⟨_, rfl, rfl, h1, h2⟩

set_option maxRecDepth 100000 in
set_option maxHeartbeats 4000000 in
theorem p8_look (F : Interp) (b cc ic rc fc cb n i s B : Nat) (c : Option Nat) (op pos : Int) (ps : List Int) (E : Nat → List Nat) (w : World) (hF : F.answers w.tape) (hop : op = 9 ∨ op = 10)
    (h0 : w.cell? ⟨b, 0, none⟩ = some (.int .u8 op)) (h1 : w.cell? ⟨b, 1, none⟩ = some (.int .i64 pos)) (h3 : w.cell? ⟨b, 3, none⟩ = some (.pointer (some ⟨s, 0, none⟩)))
    (hs : Leaf w s c) (hX : Ctx w cc ic rc cb n i E) (hi : i < n) (hc : ∀ t, c = some t → t < n) (hn : n ≤ 256) (hE : ∀ u, u < n → ∀ v ∈ E u, v < n) (hEl : ∀ u, u < n → (E u).length ≤ 1024) (hps : ps.length ≤ 4096)
    (hfl : Faults w fc B ps) (hB : B ≤ fc) (_hbB : b < B) (hcbB : cb < B) :
    Calls Ybaf.prog 8 #[.pointer (some ⟨b, 0, none⟩), .pointer (some ⟨cc, 0, none⟩), .pointer (some ⟨ic, 0, none⟩), .pointer (some ⟨rc, 0, none⟩), .pointer (some ⟨fc, 0, none⟩)] w fun r w' => r = .returned (.tuple #[]) ∧
      ∃ m, MarksC E c n m ∧ Ctx w' cc ic rc cb n i E ∧ Faults w' fc B (ps ++ if m[i]? = some true then [pos] else []) ∧ Below B w w' := by
  obtain ⟨i47, hi47, z47a, z47b, z47c⟩ := info_parts info47
  have hccl := hX.calls.lt
  have hicl := hX.idx.lt
  have hS : w.cell? ⟨cc, 0, none⟩ = some (.slice (some ⟨cb, 0, none⟩) n n) ∧ w.cell? ⟨ic, 0, none⟩ = some (.int .i64 i) ∧ w.cell? ⟨b, 3, none⟩ = some (.pointer (some ⟨s, 0, none⟩)) := ⟨hX.calls.cell 0 rfl, hX.idx.cell 0 rfl, h3⟩
  have hbl : b < w.heap.size := World.block_lt_of_cell? w _ h0
  have HE := hide hE
  have HEL := hide hEl
  have HX := hide hX
  have HFL := hide hfl
  have HC := hide hc
  have HSE : Hid (Leaf w.drew s c) := by cases c <;> exact hs
  clear hE hEl hX hfl hc
  go_enter Ybaf.func8, Ybaf.ntmps8
  go_upto_region 0 with fail
  go_cut [18] from 7 to 18 (fun t wc => t = .bool false ∧ w = wc)
  case first =>
    rcases hop with rfl | rfl
    all_goals
      go_wp2
      go_meet
      case rel => exact ⟨rfl, rfl⟩
  case rest =>
    obtain ⟨rfl, rfl⟩ := hcut
    clear hop h0
    go_upto_region 1 with fail
    go_cut [28] from 19 to 28 (fun v wc => ∃ (m : List Bool) (bb : Bool), v = .bool bb ∧ m[i]? = some bb ∧ MarksC E c n m ∧ Below w.heap.size w wc)
    case first =>
      go_region_with
        (first
          | (go_at_call 10; refine (left_any s c _ (unhide HSE)).mono ?_; rintro r w1 ⟨v, rfl, hg, hb1⟩;
             have hS1 : w1.cell? ⟨cc, 0, none⟩ = some (.slice (some ⟨cb, 0, none⟩) n n) ∧ w1.cell? ⟨ic, 0, none⟩ = some (.int .i64 i) ∧ w1.cell? ⟨b, 3, none⟩ = some (.pointer (some ⟨s, 0, none⟩)) := ⟨(hb1.cell (p := ⟨cc, 0, none⟩) hccl).trans hS.1, (hb1.cell (p := ⟨ic, 0, none⟩) hicl).trans hS.2.1, (hb1.cell (p := ⟨b, 3, none⟩) hbl).trans hS.2.2⟩;
             have HB1 : Hid (Below w.heap.size w w1) := ⟨hb1.os, hb1.tape, hb1.output, hb1.size, hb1.block⟩; have HG1 := hide hg; clear hg hb1)
          | (go_at_call 9; refine (reachable_any cb n c _ E _ (unhide HC) hn (unhide HE) (unhide HEL) ((unhide HX).graph.below (unhide HB1) (Nat.le_refl _)) (unhide HG1)).mono ?_; rintro r w2 ⟨m, hm, rfl, hblk, hb2⟩;
             have hsz1 := (unhide HB1).size;
             have hS2 : w2.cell? ⟨cc, 0, none⟩ = some (.slice (some ⟨cb, 0, none⟩) n n) ∧ w2.cell? ⟨ic, 0, none⟩ = some (.int .i64 i) ∧ w2.cell? ⟨b, 3, none⟩ = some (.pointer (some ⟨s, 0, none⟩)) := ⟨(hb2.cell (p := ⟨cc, 0, none⟩) (by show cc < w1.heap.size; omega)).trans hS1.1, (hb2.cell (p := ⟨ic, 0, none⟩) (by show ic < w1.heap.size; omega)).trans hS1.2.1, (hb2.cell (p := ⟨b, 3, none⟩) (by show b < w1.heap.size; omega)).trans hS1.2.2⟩;
             obtain ⟨bb, hbb⟩ := marks_get hm.len hi;
             have cm : w2.cell? ⟨w1.heap.size, i, none⟩ = some (.bool bb) := hblk.cell i (bools_get hbb);
             have HB2 := hide ((unhide HB1).trans (hb2.mono hsz1)); have HM := hide hm; have HBB := hide hbb; clear hblk hb2 hm hbb))
      all_goals
        go_wp2
        go_meet
        case rel => exact ⟨m, bb, rfl, unhide HBB, unhide HM, unhide HB2⟩
    case rest =>
      obtain ⟨m, bb, rfl, hbb, hm, hbw⟩ := hcut
      have HBB := hide hbb
      have HM := hide hm
      have HBW := hide hbw
      have hX1 : Ctx wc cc ic rc cb n i E := by
        have hX := unhide HX
        obtain ⟨nm, x, y, z, u, hr⟩ := hX.rule
        exact ⟨hX.calls.below hbw hX.calls.lt, hX.idx.below hbw hX.idx.lt, ⟨nm, x, y, z, u, hr.below hbw hr.lt⟩, hX.graph.below hbw (Nat.le_refl _)⟩
      obtain ⟨l, v, hl, hfb, hrow⟩ := unhide HFL
      have hf1 : Blk wc fc #[v] 44 := hfb.below hbw hfb.lt
      have hrow1 : wc.ownsRow B 47 2 v l.length (frow l) := row_turns hrow (Turns.of_below hbw (fun _ => False)) (fun _ _ h => h)
      have hBw : Below B w wc := hbw.mono (by have := hfb.lt; omega)
      have hsz := hbw.size
      have hll : l.length ≤ 4096 := by rw [← hl] at hps; simpa using hps
      have hbf : fc < w.heap.size := hfb.lt
      cases bb with
      | false =>
        have HX1 := hide hX1
        have HF1 := hide hf1
        have HR1 := hide hrow1
        have HBw := hide hBw
        clear hX1 hf1 hrow1 hBw hbb hm hbw HX HFL hfb hrow
        go_wp2
        go_end0
        refine ⟨rfl, m, unhide HM, unhide HX1, ?_, unhide HBw⟩
        rw [unhide HBB]
        exact ⟨l, v, by simp [hl], unhide HF1, unhide HR1⟩
      | true =>
        obtain ⟨nm, x, y, z, u, hr1⟩ := hX1.rule
        have r0 := hr1.cell 0 rfl
        have f0 := hf1.cell 0 rfl
        have zf0 := hf1.frozen 0
        have e1 : wc.cell? ⟨b, 1, none⟩ = some (.int .i64 pos) := (hbw.cell (p := ⟨b, 1, none⟩) hbl).trans h1
        have hF1 : F.answers wc.tape := by rw [hbw.tape]; exact hF
        have hF' := answers_open hF1
        have HX1 := hide hX1
        have HF1 := hide hf1
        have HR1 := hide hrow1
        have HBw := hide hBw
        have hfc : fc < wc.heap.size := by omega
        have hbc : b < wc.heap.size := by omega
        clear hX1 hf1 hrow1 hBw hbb hm hbw HX HFL hfb hrow hr1
        go_upto_region 3 with fail
        generalize FmtStop.textOf _ = msg
        have hXW : Ctx (wc.alloc (.cells #[.iface 9 (.string nm)] 20)).drew cc ic rc cb n i E := ctx_turns (unhide HX1) (((Turns.refl wc (fun _ => False)).alloc _).drew) (fun _ h => h)
        have hFW : Blk (wc.alloc (.cells #[.iface 9 (.string nm)] 20)).drew fc #[v] 44 := (unhide HF1).alloc _
        have hRW : (wc.alloc (.cells #[.iface 9 (.string nm)] 20)).drew.ownsRow B 47 2 v l.length (frow l) := (unhide HR1).alloc _
        have hBW2 : Below B w (wc.alloc (.cells #[.iface 9 (.string nm)] 20)).drew := ((unhide HBw).alloc (by omega) _).drew
        have eW : (wc.alloc (.cells #[.iface 9 (.string nm)] 20)).drew.cell? ⟨b, 1, none⟩ = some (.int .i64 pos) := Lib.cell?_alloc_some _ e1
        have hszW : wc.heap.size ≤ (wc.alloc (.cells #[.iface 9 (.string nm)] 20)).drew.heap.size := by show wc.heap.size ≤ (wc.alloc _).heap.size; simp
        obtain ⟨W, hW⟩ : ∃ W, (wc.alloc (.cells #[.iface 9 (.string nm)] 20)).drew = W := ⟨_, rfl⟩
        rw [hW] at hXW hFW hRW hBW2 eW hszW ⊢
        have fW := hFW.cell 0 rfl
        have zW := hFW.frozen 0
        have fW2 : (W.alloc (.cells #[.int .i64 pos, .string msg] 47)).drew.cell? ⟨fc, 0, none⟩ = some v := Blk.cell (hFW.alloc (.cells #[.int .i64 pos, .string msg] 47)) 0 rfl
        have HXW := hide hXW
        have HFW := hide hFW
        have HRW : Hid (W.drew.ownsRow B 47 2 v l.length (frow l)) := hRW
        have HBW := hide hBW2
        have hbne := row_block_ne hFW hRW (by decide)
        clear hXW hFW hRW hBW2 hW e1 f0 zf0 r0 HX1 HF1 HR1 HBw
        go_region_law (refine step_append_lies _ rfl (.tmp 34) (.tmp 41) 44 rfl B 47 i47 _ 2 24 Ybaf.underlying44 hi47 z47a z47b z47c rfl (by decide) v l.length (frow l) rfl ((unhide HRW).alloc _) ⟨W.heap.size, 0, none⟩ 1 1 [.int .i64 pos, .string msg] rfl rfl (two_new _ _ _ _) (by simp [Value.oneCell']) (by decide) (by unfold maxLen; omega) (by omega) (by simp; omega) _ rfl ?_; intro g cap w1 hown hgrow hat hlt; have hB1 : Blk w1 fc #[v] 44 := (hgrow.block fc (by simp; omega) hbne).trans (Blk.alloc (Blk.drew (unhide HFW)) _); have cc1 := hB1.cell 0 rfl; have zc1 := hB1.frozen 0)
        all_goals
          have hT1 : Turns W w1 (fun k => v.ownBlock = some k) := (((Turns.refl W _).drew).alloc _).grown hgrow (fun k e => .inl e)
          have HX2 : Hid (Ctx w1 cc ic rc cb n i E) := ctx_row (unhide HXW) hT1 (unhide HRW) hcbB
          have HT1 := hide hT1
          have HO := hide hown
          have HB1 := hide hB1
          have hgf : some fc ≠ (Value.slice (some ⟨g, 0, none⟩) (l.length + 1) cap).ownBlock := row_block_ne hB1 hown (by decide)
          have HBB1 : Hid (Below B w w1) := (unhide HBW).trans (hT1.to_below (by omega) (fun k e => ownBlock_ge (unhide HRW) k e))
          clear hT1 hB1 hown hgrow hat
          go_wp2
          go_end0
          refine ⟨rfl, m, unhide HM, ctx_set (unhide HX2) (unhide HB1) (by omega) _, ?_, (unhide HBB1).setCell (p := ⟨fc, 0, none⟩) hB _⟩
          rw [unhide HBB]
          refine ⟨l ++ [(pos, msg)], _, by simp [hl], (unhide HB1).set 0 _, ?_⟩
          have := row_other (unhide HO) ⟨fc, 0, none⟩ hgf (.slice (some ⟨g, 0, none⟩) (l.length + 1) cap)
          simpa [frow_append, frow] using this
end Go.Proofs.YbulkblmiFmt
