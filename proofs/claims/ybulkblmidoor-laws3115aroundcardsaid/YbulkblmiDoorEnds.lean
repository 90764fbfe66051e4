/-
  What stands when the law looks at the round's outcome.
-/
import Derived.Test.YbulkblmiDoorNew
import Derived.Test.YbulkblmiDoorNext
namespace Go.Proofs.YbulkblmiDoor
open Go.RowKit

theorem orMapE {a b c : Prop} (h : a ∨ b) (f : b → c) : a ∨ c := by
  rcases h with h | h
  · exact .inl h
  · exact .inr (f h)


theorem take_get {xs : List Value} {m j : Nat} {u : Value} (h : (xs.take m)[j]? = some u) : xs[j]? = some u := by
  rw [List.getElem?_take] at h
  split at h
  · exact h
  · cases h

/-- The seed stays. -/
theorem seed_end {w w13 w14 : World} {pb nb ob sd vb vc mark nN grb B : Nat} {SE : Nat} {s : PS} {xs : List Value} {cs : Array Value}
    (hP14 : PB w14 pb s) (hr14 : w14.ownsRow B 33 1 (.slice (some ⟨vb, 0, none⟩) (mark + 1) vc) (mark + 1) (xs.take mark ++ [.pointer (some ⟨sd, 0, none⟩)])) (hT14 : Turns w13 w14 (fun k => k = pb ∨ k = nb)) (hSd : Blk w13 sd cs 35) (hc : cs[2]? = some (.int .i64 SE)) (hO13 : w13.ownsRow ob 33 1 (.slice (some ⟨ob, 0, none⟩) nN nN) nN xs) (hB13 : Below w.heap.size w w13)
    (hxp : ∀ u ∈ xs, ∃ x : Nat, u = .pointer (some ⟨x, 0, none⟩)) (hxl : xs.length = nN) (hm : mark ≤ nN) (hn : nN ≤ 5) (h1 : w.heap.size ≤ nb) (h2 : nb < ob) (h3 : ob < grb) (h4 : grb < sd) (h5 : sd < pb) (a b c : Value) :
    ∃ w15, w14.alloc (.cells #[a, b, c] 73) = w15 ∧ PB w15 pb s ∧ Blk w15 w14.heap.size #[a, b, c] 73 ∧ w15.cell? ⟨sd, 2, none⟩ = some (.int .i64 SE) ∧ w15.cell? ⟨vb, mark, none⟩ = some (.pointer (some ⟨sd, 0, none⟩)) ∧ vb < w15.heap.size ∧ pb < w15.heap.size ∧
      Below w.heap.size w w15 ∧ w.heap.size ≤ w15.heap.size ∧
      ∀ d, Calls Ybad.prog 6 #[.slice (some ⟨vb, 0, none⟩) (mark + 1) vc, .slice (some ⟨ob, 0, none⟩) mark nN] (w15.drewN d) fun r w' => r = .returned (.bool true) ∧ ∃ m, w' = (w15.drewN d).drewN m := by
  have hT15 := (Turns.refl w14 (fun _ => False)).alloc (.cells #[a, b, c] 73)
  have hP15 : PB _ pb s := hT15.pb hP14 (fun h => h)
  have hr15 := row_turns hr14 hT15 (fun _ _ h => h)
  have hO14 := row_turns hO13 hT14 (fun k hk e => by simp [Value.ownBlock] at hk; omega)
  have hO15 := row_turns hO14 hT15 (fun _ _ h => h)
  have hS14 := hSd.turns hT14 (by omega)
  have hS15 := hS14.turns hT15 (fun h => h)
  have hB15 : Below w.heap.size w (w14.alloc (.cells #[a, b, c] 73)) := (hB13.trans (hT14.to_below hB13.size (fun k h => by omega))).trans (hT15.to_below (Nat.le_trans hB13.size hT14.2.2.2.1) (fun _ h => h.elim))
  refine ⟨_, rfl, hP15, Blk.new _ _ _, hS15.cell 2 hc, ?_, ownsRow_block hr15, hP15.lt, hB15, hB15.size, ?_⟩
  · refine row_cells hr15 mark _ ?_
    rw [List.getElem?_append_right (by simp; omega)]
    simp [hxl, Nat.min_eq_left hm]
  · intro d
    refine pre_calls vb ob (mark + 1) vc mark nN 0 0 (xs.take mark) _ (by omega) (by omega) (by simp; omega) (fun j u hu => ?_) (fun j u hu => ?_) (fun u hu => hxp u (List.mem_of_mem_take hu))
    · rw [Nat.zero_add]
      refine row_cells hr15 j u ?_
      rw [List.getElem?_append_left ((List.getElem?_eq_some_iff.1 hu).1)]
      exact hu
    · rw [Nat.zero_add]
      exact row_cells hO15 j u (take_get hu)

/-- The new node, looked at. -/
theorem new_any {w15 : World} {g pos ed kc ob mark nN B : Nat} {inp : ByteArray} {kids : Value} {xs : List Value} (hN : Blk w15 g #[strR, .int .i64 pos, .int .i64 ed, .string (inp.extract pos ed), kids] 35) (hK : (nN = mark ∧ kids = .slice none 0 0) ∨ (mark < nN ∧ w15.ownsRow B 33 1 kids (nN - mark) (xs.drop mark)))
    (hO : w15.ownsRow ob 33 1 (.slice (some ⟨ob, 0, none⟩) nN nN) nN xs) (hxp : ∀ u ∈ xs, ∃ x : Nat, u = .pointer (some ⟨x, 0, none⟩)) (hxl : xs.length = nN) (hn : nN ≤ 5) (hpe : pos ≤ ed) (hei : ed ≤ inp.size) (hi : inp.size ≤ 40) (d : Nat) :
    (nN = mark → Calls Ybad.prog 7 #[.pointer (some ⟨g, 0, none⟩), .string inp, .int .i64 pos, .int .i64 ed, .slice (some ⟨ob, 0, none⟩) 0 kc] (w15.drewN d) fun r w'' => r = .returned (.bool true) ∧ ∃ m, w'' = (w15.drewN d).drewN m) ∧
    (mark < nN → Calls Ybad.prog 7 #[.pointer (some ⟨g, 0, none⟩), .string inp, .int .i64 pos, .int .i64 ed, .slice (some ⟨ob, mark, none⟩) (nN - mark) kc] (w15.drewN d) fun r w'' => r = .returned (.bool true) ∧ ∃ m, w'' = (w15.drewN d).drewN m) := by
  have hN' : Blk (w15.drewN d) g #[strR, .int .i64 pos, .int .i64 ed, .string (inp.extract pos ed), kids] 35 := hN
  constructor
  · intro e
    rcases hK with ⟨_, rfl⟩ | ⟨h, _⟩
    · exact newnode_none g pos ed kc inp _ (w15.drewN d) hN' hpe hei hi
    · omega
  · intro e
    rcases hK with ⟨h, _⟩ | ⟨_, hk⟩
    · omega
    · obtain ⟨kb, kcc, rfl⟩ : ∃ kb kcc, kids = .slice (some ⟨kb, 0, none⟩) (nN - mark) kcc := by
        rcases hk.2 with ⟨_, h0⟩ | ⟨kb, kcc, _, hv, _⟩
        · omega
        · exact ⟨kb, kcc, hv⟩
      refine newnode_some g pos ed (nN - mark) kc kb kcc ob mark inp (xs.drop mark) (w15.drewN d) hN' hpe hei hi (by omega) (by omega) (by simp [hxl]) (fun j u hu => ?_) (fun j u hu => ?_) (fun u hu => hxp u (List.mem_of_mem_drop hu))
      · rw [Nat.zero_add]; exact row_cells hk j u hu
      · exact row_cells hO (mark + j) u (by rwa [List.getElem?_drop] at hu)

/-- The growth ends with the new node. -/
theorem done_end {w w13 w14 : World} {pb nb ob gb g vb vc mark nN grb B pos ed : Nat} {inp : ByteArray} {s : PS} {xs : List Value} {ic : Array Value} {kids : Value}
    (hP14 : PB w14 pb s) (hr14 : w14.ownsRow B 33 1 (.slice (some ⟨vb, 0, none⟩) (mark + 1) vc) (mark + 1) (xs.take mark ++ [.pointer (some ⟨g, 0, none⟩)])) (hT14 : Turns w13 w14 (fun k => k = pb ∨ k = nb ∨ k = gb)) (hI13 : Blk w13 w.heap.size ic 23) (hO13 : w13.ownsRow ob 33 1 (.slice (some ⟨ob, 0, none⟩) nN nN) nN xs) (hB13 : Below w.heap.size w w13)
    (hN14 : Blk w14 g #[strR, .int .i64 pos, .int .i64 ed, .string (inp.extract pos ed), kids] 35) (hK14 : (nN = mark ∧ kids = .slice none 0 0) ∨ (mark < nN ∧ w14.ownsRow w13.heap.size 33 1 kids (nN - mark) (xs.drop mark)))
    (hxp : ∀ u ∈ xs, ∃ x : Nat, u = .pointer (some ⟨x, 0, none⟩)) (hxl : xs.length = nN) (hm : mark ≤ nN) (hn : nN ≤ 5) (hpe : pos ≤ ed) (hei : ed ≤ inp.size) (hi : inp.size ≤ 40) (h1 : w.heap.size < nb) (h2 : nb < ob) (h3 : ob < grb) (h4 : grb < gb) (h5 : gb < pb) (a b c : Value) :
    ∃ w15, w14.alloc (.cells #[a, b, c] 73) = w15 ∧ PB w15 pb s ∧ Blk w15 w14.heap.size #[a, b, c] 73 ∧ Blk w15 w.heap.size ic 23 ∧ w15.cell? ⟨vb, mark, none⟩ = some (.pointer (some ⟨g, 0, none⟩)) ∧ vb < w15.heap.size ∧ pb < w15.heap.size ∧
      Below w.heap.size w w15 ∧ w.heap.size ≤ w15.heap.size ∧ (∀ (sd : Nat) (v : Value), grb < sd → sd < gb → w13.cell? ⟨sd, 2, none⟩ = some v → w15.cell? ⟨sd, 2, none⟩ = some v) ∧
      (∀ d, Calls Ybad.prog 6 #[.slice (some ⟨vb, 0, none⟩) (mark + 1) vc, .slice (some ⟨ob, 0, none⟩) mark nN] (w15.drewN d) fun r w' => r = .returned (.bool true) ∧ ∃ m, w' = (w15.drewN d).drewN m) ∧
      ∀ d kc, (nN = mark → Calls Ybad.prog 7 #[.pointer (some ⟨g, 0, none⟩), .string inp, .int .i64 pos, .int .i64 ed, .slice (some ⟨ob, 0, none⟩) 0 kc] (w15.drewN d) fun r w'' => r = .returned (.bool true) ∧ ∃ m, w'' = (w15.drewN d).drewN m) ∧
        (mark < nN → Calls Ybad.prog 7 #[.pointer (some ⟨g, 0, none⟩), .string inp, .int .i64 pos, .int .i64 ed, .slice (some ⟨ob, mark, none⟩) (nN - mark) kc] (w15.drewN d) fun r w'' => r = .returned (.bool true) ∧ ∃ m, w'' = (w15.drewN d).drewN m) := by
  have hT15 := (Turns.refl w14 (fun _ => False)).alloc (.cells #[a, b, c] 73)
  have hP15 : PB _ pb s := hT15.pb hP14 (fun h => h)
  have hr15 := row_turns hr14 hT15 (fun _ _ h => h)
  have hO14 := row_turns hO13 hT14 (fun k hk e => by simp [Value.ownBlock] at hk; omega)
  have hO15 := row_turns hO14 hT15 (fun _ _ h => h)
  have hI15 := (hI13.turns hT14 (by omega)).turns hT15 (fun h => h)
  have hN15 := hN14.turns hT15 (fun h => h)
  have hK15 : (nN = mark ∧ kids = .slice none 0 0) ∨ (mark < nN ∧ (w14.alloc (.cells #[a, b, c] 73)).ownsRow w13.heap.size 33 1 kids (nN - mark) (xs.drop mark)) := orMapE hK14 (fun h => ⟨h.1, row_turns h.2 hT15 (fun _ _ h => h)⟩)
  have hB15 : Below w.heap.size w (w14.alloc (.cells #[a, b, c] 73)) := (hB13.trans (hT14.to_below hB13.size (fun k h => by omega))).trans (hT15.to_below (Nat.le_trans hB13.size hT14.2.2.2.1) (fun _ h => h.elim))
  refine ⟨_, rfl, hP15, Blk.new _ _ _, hI15, ?_, ownsRow_block hr15, hP15.lt, hB15, hB15.size, ?_, ?_, ?_⟩
  · refine row_cells hr15 mark _ ?_
    rw [List.getElem?_append_right (by simp; omega)]
    simp [hxl, Nat.min_eq_left hm]
  · intro sd v hs1 hs2 hv
    have hl := World.block_lt_of_cell? w13 _ hv
    have h14 := (hT14.cell (p := ⟨sd, 2, none⟩) hl (by show ¬ (sd = pb ∨ sd = nb ∨ sd = gb); omega)).trans hv
    exact (hT15.cell (p := ⟨sd, 2, none⟩) (World.block_lt_of_cell? w14 _ h14) (fun h => h)).trans h14
  · intro d
    refine pre_calls vb ob (mark + 1) vc mark nN 0 0 (xs.take mark) _ (by omega) (by omega) (by simp; omega) (fun j u hu => ?_) (fun j u hu => ?_) (fun u hu => hxp u (List.mem_of_mem_take hu))
    · rw [Nat.zero_add]
      refine row_cells hr15 j u ?_
      rw [List.getElem?_append_left ((List.getElem?_eq_some_iff.1 hu).1)]
      exact hu
    · rw [Nat.zero_add]
      exact row_cells hO15 j u (take_get hu)
  · intro d kc
    exact new_any hN15 hK15 hO15 hxp hxl hn hpe hei hi d

/-- The next round is begun. -/
theorem next_seen {w w13 w14 : World} {pb nb ob gb fb ab g mark nN grb B pos ed nf : Nat} {inp : ByteArray} {s : PS} {xs : List Value} {ic gc fc : Array Value} {kids xv : Value} {l' : List (Nat × Bool)}
    (hP14 : PB w14 pb s) (hr14 : w14.ownsRow B 33 1 (.slice (some ⟨nb, 0, none⟩) mark nN) mark (xs.take mark)) (hT14 : Turns w13 w14 (fun k => k = pb ∨ k = gb ∨ k = grb ∨ k = fb)) (hG14 : Blk w14 gb gc 49) (hF14 : Blk w14 fb fc 71) (hL14 : GR w14 grb l') (hI13 : Blk w13 w.heap.size ic 23) (hA13 : w13.cell? ⟨ab, nf, none⟩ = some xv) (hO13 : w13.ownsRow ob 33 1 (.slice (some ⟨ob, 0, none⟩) nN nN) nN xs) (hB13 : Below w.heap.size w w13)
    (hN14 : Blk w14 g #[strR, .int .i64 pos, .int .i64 ed, .string (inp.extract pos ed), kids] 35) (hK14 : (nN = mark ∧ kids = .slice none 0 0) ∨ (mark < nN ∧ w14.ownsRow w13.heap.size 33 1 kids (nN - mark) (xs.drop mark)))
    (hxp : ∀ u ∈ xs, ∃ x : Nat, u = .pointer (some ⟨x, 0, none⟩)) (hxl : xs.length = nN) (hm : mark ≤ nN) (hn : nN ≤ 5) (hpe : pos ≤ ed) (hei : ed ≤ inp.size) (hi : inp.size ≤ 40) (h0 : w.heap.size < ab) (h1 : ab < nb) (h2 : nb < ob) (h3 : ob < grb) (h4 : grb < gb) (h5 : gb < pb) (h6 : pb < fb) (a b c : Value) :
    ∃ w15, w14.alloc (.cells #[a, b, c] 73) = w15 ∧ PB w15 pb s ∧ Blk w15 w14.heap.size #[a, b, c] 73 ∧ Blk w15 w.heap.size ic 23 ∧ w15.cell? ⟨ab, nf, none⟩ = some xv ∧ Blk w15 gb gc 49 ∧ Blk w15 fb fc 71 ∧ GR w15 grb l' ∧ pb < w15.heap.size ∧ fb < w15.heap.size ∧
      Below w.heap.size w w15 ∧ w.heap.size ≤ w15.heap.size ∧ (∀ (sd : Nat) (v : Value), grb < sd → sd < gb → w13.cell? ⟨sd, 2, none⟩ = some v → w15.cell? ⟨sd, 2, none⟩ = some v) ∧
      (∀ w', Turns w15 w' (fun _ => False) → Calls Ybad.prog 6 #[.slice (some ⟨nb, 0, none⟩) mark nN, .slice (some ⟨ob, 0, none⟩) mark nN] w' fun r w'' => r = .returned (.bool true) ∧ ∃ m, w'' = w'.drewN m) ∧
      ∀ w' kc, Turns w15 w' (fun _ => False) → (nN = mark → Calls Ybad.prog 7 #[.pointer (some ⟨g, 0, none⟩), .string inp, .int .i64 pos, .int .i64 ed, .slice (some ⟨ob, 0, none⟩) 0 kc] w' fun r w'' => r = .returned (.bool true) ∧ ∃ m, w'' = w'.drewN m) ∧
        (mark < nN → Calls Ybad.prog 7 #[.pointer (some ⟨g, 0, none⟩), .string inp, .int .i64 pos, .int .i64 ed, .slice (some ⟨ob, mark, none⟩) (nN - mark) kc] w' fun r w'' => r = .returned (.bool true) ∧ ∃ m, w'' = w'.drewN m) := by
  have hT15 := (Turns.refl w14 (fun _ => False)).alloc (.cells #[a, b, c] 73)
  have hP15 : PB _ pb s := hT15.pb hP14 (fun h => h)
  have hr15 := row_turns hr14 hT15 (fun _ _ h => h)
  have hO14 := row_turns hO13 hT14 (fun k hk e => by simp [Value.ownBlock] at hk; omega)
  have hO15 := row_turns hO14 hT15 (fun _ _ h => h)
  have hI15 := (hI13.turns hT14 (by omega)).turns hT15 (fun h => h)
  have hG15 := hG14.turns hT15 (fun h => h)
  have hF15 := hF14.turns hT15 (fun h => h)
  have hN15 := hN14.turns hT15 (fun h => h)
  have hal := World.block_lt_of_cell? w13 _ hA13
  have hA14 := (hT14.cell (p := ⟨ab, nf, none⟩) hal (by show ¬ (ab = pb ∨ ab = gb ∨ ab = grb ∨ ab = fb); omega)).trans hA13
  have hA15 := (hT15.cell (p := ⟨ab, nf, none⟩) (World.block_lt_of_cell? w14 _ hA14) (fun h => h)).trans hA14
  have hK15 : (nN = mark ∧ kids = .slice none 0 0) ∨ (mark < nN ∧ (w14.alloc (.cells #[a, b, c] 73)).ownsRow w13.heap.size 33 1 kids (nN - mark) (xs.drop mark)) := orMapE hK14 (fun h => ⟨h.1, row_turns h.2 hT15 (fun _ _ h => h)⟩)
  have hB15 : Below w.heap.size w (w14.alloc (.cells #[a, b, c] 73)) := (hB13.trans (hT14.to_below hB13.size (fun k h => by omega))).trans (hT15.to_below (Nat.le_trans hB13.size hT14.2.2.2.1) (fun _ h => h.elim))
  refine ⟨_, rfl, hP15, Blk.new _ _ _, hI15, hA15, hG15, hF15, hL14.turns hT15 (fun h => h), hP15.lt, hF15.lt, hB15, hB15.size, ?_, ?_, ?_⟩
  · intro sd v hs1 hs2 hv
    have hl := World.block_lt_of_cell? w13 _ hv
    have h14 := (hT14.cell (p := ⟨sd, 2, none⟩) hl (by show ¬ (sd = pb ∨ sd = gb ∨ sd = grb ∨ sd = fb); omega)).trans hv
    exact (hT15.cell (p := ⟨sd, 2, none⟩) (World.block_lt_of_cell? w14 _ h14) (fun h => h)).trans h14
  · intro w' hT
    have hr' := row_turns hr15 hT (fun _ _ h => h)
    have hO' := row_turns hO15 hT (fun _ _ h => h)
    refine pre_calls nb ob mark nN mark nN 0 0 (xs.take mark) _ (Nat.le_refl _) (by omega) (by simp; omega) (fun j u hu => ?_) (fun j u hu => ?_) (fun u hu => hxp u (List.mem_of_mem_take hu))
    · rw [Nat.zero_add]; exact row_cells hr' j u hu
    · rw [Nat.zero_add]; exact row_cells hO' j u (take_get hu)
  · intro w' kc hT
    exact new_any (w15 := w') (kc := kc) (hN15.turns hT (fun h => h)) (orMapE hK15 (fun h => ⟨h.1, row_turns h.2 hT (fun _ _ h => h)⟩)) (row_turns hO15 hT (fun _ _ h => h)) hxp hxl hn hpe hei hi 0
end Go.Proofs.YbulkblmiDoor
