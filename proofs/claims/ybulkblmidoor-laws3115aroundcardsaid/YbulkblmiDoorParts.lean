/-
  What the law lays in memory: rows of pointers, of bytes, of results; strings of bytes; copies.
-/
import Derived.Test.YbulkblmiDoorDel
import Derived.Test.YbulkblmiDoorNode
import Derived.Laws.CopyOwn
import Derived.Laws.BytesString
namespace Go.Proofs.YbulkblmiDoor
open Go.RowKit

/-- A row of k pointers, of which the first i are laid. -/
def Fill (w : World) (b : Nat) (t : TypeId) (k i : Nat) : Prop := ∃ cs, Blk w b cs t ∧ cs.size = k ∧ ∀ j, j < i → ∃ x : Nat, cs[j]? = some (.pointer (some ⟨x, 0, none⟩))

theorem blk_of_row {w : World} {B b k n : Nat} {e : TypeId} {size : Nat} {xs : List Value} (h : w.ownsRow B e size (.slice (some ⟨b, 0, none⟩) n k) n xs) : ∃ cs, Blk w b cs e ∧ cs.size = k * size ∧ cs.toList.take (n * size) = xs := by
  obtain ⟨_, (⟨h, _⟩ | ⟨_, _, cs, hv, _, hb, _, _, hs, ht⟩)⟩ := h
  · cases h
  · cases hv
    exact ⟨cs, hb, hs, ht⟩

theorem Fill.start {w : World} {B b k : Nat} {e : TypeId} {xs : List Value} (h : w.ownsRow B e 1 (.slice (some ⟨b, 0, none⟩) k k) k xs) : Fill w b e k 0 := by
  obtain ⟨cs, hb, hs, _⟩ := blk_of_row h
  exact ⟨cs, hb, by omega, fun j hj => absurd hj (Nat.not_lt_zero _)⟩
theorem Fill.lt {w : World} {b k i : Nat} {t : TypeId} (h : Fill w b t k i) : b < w.heap.size := by obtain ⟨cs, hb, _⟩ := h; exact hb.lt
theorem Fill.frozen {w : World} {b k i : Nat} {t : TypeId} (h : Fill w b t k i) (j : Nat) : w.frozen? ⟨b, j, none⟩ = false := by obtain ⟨cs, hb, _⟩ := h; exact hb.frozen j
theorem Fill.there {w : World} {b k i j : Nat} {t : TypeId} (h : Fill w b t k i) (hj : j < k) : ∃ v, w.cell? ⟨b, j, none⟩ = some v := by
  obtain ⟨cs, hb, hs, _⟩ := h
  exact ⟨_, hb.cell j (Array.getElem?_eq_getElem (by omega))⟩
theorem Fill.get {w : World} {b k i j : Nat} {t : TypeId} (h : Fill w b t k i) (hj : j < i) : ∃ x : Nat, w.cell? ⟨b, j, none⟩ = some (.pointer (some ⟨x, 0, none⟩)) := by
  obtain ⟨cs, hb, hs, hc⟩ := h
  obtain ⟨x, hx⟩ := hc j hj
  exact ⟨x, hb.cell j hx⟩
theorem Fill.turns {w w' : World} {b k i : Nat} {t : TypeId} {T : Nat → Prop} (h : Fill w b t k i) (ht : Turns w w' T) (hn : ¬ T b) : Fill w' b t k i := by
  obtain ⟨cs, hb, h⟩ := h
  exact ⟨cs, hb.turns ht hn, h⟩
theorem Fill.step {w : World} {b k i : Nat} {t : TypeId} (h : Fill w b t k i) (hi : i < k) (o : Obj) : Fill ((w.alloc o).setCell ⟨b, i, none⟩ (.pointer (some ⟨w.heap.size, 0, none⟩))) b t k (i + 1) := by
  obtain ⟨cs, hb, hs, hc⟩ := h
  refine ⟨_, (hb.alloc o).set i _, by simpa using hs, fun j hj => ?_⟩
  by_cases hji : j = i
  · subst hji
    exact ⟨w.heap.size, by rw [Array.getElem?_setIfInBounds_self_of_lt (by omega)]⟩
  · obtain ⟨x, hx⟩ := hc j (by omega)
    exact ⟨x, by rw [Array.getElem?_setIfInBounds_ne (fun e => hji e.symm)]; exact hx⟩
theorem Fill.row {w : World} {b n B : Nat} (h : Fill w b 33 n n) (hB : B ≤ b) (hn : n ≤ 10) : ∃ xs, w.ownsRow B 33 1 (.slice (some ⟨b, 0, none⟩) n n) n xs ∧ xs.length = n ∧ ∀ u ∈ xs, ∃ x : Nat, u = .pointer (some ⟨x, 0, none⟩) := by
  obtain ⟨cs, hb, hs, hc⟩ := h
  refine ⟨cs.toList, ⟨by simp [hs], .inr ⟨b, n, cs, rfl, hB, hb, Nat.le_refl _, by unfold maxLen; omega, by omega, ?_⟩⟩, by simp [hs], ?_⟩
  · rw [List.take_of_length_le (by simp [hs])]
  · intro u hu
    obtain ⟨j, hj, rfl⟩ := List.getElem_of_mem hu
    simp at hj
    obtain ⟨x, hx⟩ := hc j (by omega)
    refine ⟨x, ?_⟩
    rw [Array.getElem?_eq_getElem hj] at hx
    simpa using hx

/-- A row of L bytes. -/
def Byt (w : World) (b L : Nat) : Prop := ∃ ns : List Int, ns.length = L ∧ Blk w b (ns.map (Value.int .u8)).toArray 5
theorem Byt.start {w : World} {B b L : Nat} (h : w.ownsRow B 5 1 (.slice (some ⟨b, 0, none⟩) L L) L (List.replicate L (.int .u8 0))) : Byt w b L := by
  obtain ⟨cs, hb, hs, ht⟩ := blk_of_row h
  refine ⟨List.replicate L 0, by simp, ?_⟩
  have : cs = ((List.replicate L (0 : Int)).map (Value.int .u8)).toArray := by
    apply Array.toList_inj.1
    rw [← List.take_of_length_le (l := cs.toList) (i := L * 1) (by simp [hs]), ht]
    simp
  rw [← this]; exact hb
theorem Byt.frozen {w : World} {b L : Nat} (h : Byt w b L) (j : Nat) : w.frozen? ⟨b, j, none⟩ = false := by obtain ⟨ns, _, hb⟩ := h; exact hb.frozen j
theorem Byt.there {w : World} {b L j : Nat} (h : Byt w b L) (hj : j < L) : ∃ v, w.cell? ⟨b, j, none⟩ = some v := by
  obtain ⟨ns, hl, hb⟩ := h
  exact ⟨_, hb.cell j (Array.getElem?_eq_getElem (by simp [hl]; exact hj))⟩
theorem Byt.step {w : World} {b L : Nat} (h : Byt w b L) (i : Nat) (z : Int) : Byt (w.setCell ⟨b, i, none⟩ (.int .u8 z)) b L := by
  obtain ⟨ns, hl, hb⟩ := h
  refine ⟨ns.set i z, by simpa using hl, ?_⟩
  have := hb.set i (.int .u8 z)
  rw [List.map_set]
  simpa using this
theorem Byt.string {w : World} {b L : Nat} (h : Byt w b L) : ∃ inp : ByteArray, inp.size = L ∧ (convert 31 9 (.slice (some ⟨b, 0, none⟩) L L)).run Ybad.prog w = .ok (.string inp) w := by
  obtain ⟨ns, hl, hb⟩ := h
  refine ⟨_, ?_, (run_convert_bytes_string w 31 9 5 _ L L Ybad.underlying31 Ybad.underlying5 Ybad.underlying9).trans (run_bytesToString w ⟨b, 0, none⟩ L L ns ?_)⟩
  · have : ∀ (ns : List Int) (s : ByteArray), (ns.foldl (fun r n => r.push (UInt8.ofNat n.toNat)) s).size = s.size + ns.length := by
      intro ns
      induction ns with
      | nil => intro s; simp
      | cons n ns ih => intro s; simp only [List.foldl_cons]; rw [ih]; simp [ByteArray.size_push]; omega
    rw [this]; simp [hl]
  · have := run_loadCells_list (P := Ybad.prog) w ⟨b, 0, none⟩ (ns.map (Value.int .u8)) (fun j v hj => by
      rw [Addr.add_lit, Nat.zero_add]
      exact hb.cell j (by simpa using hj))
    simpa [hl] using this

/-- The results as make lays them. -/
theorem GR.start {w : World} {B b n : Nat} (h : w.ownsRow B 43 6 (.slice (some ⟨b, 0, none⟩) n n) n (madeCells (Value.agg #[.int .i64 0, .pointer none, .int .i64 0, .pointer none, .int .i64 0, .bool false]).cells (n * 6)).toList) : GR w b (List.replicate n (0, false)) := by
  obtain ⟨cs, hb, hs, ht⟩ := blk_of_row h
  refine ⟨cs, hb, by simp [hs]; omega, ?_⟩
  intro i r t hi
  have hin : i < n := by
    have := (List.getElem?_eq_some_iff.1 hi).1
    simpa using this
  have he : (r, t) = (0, false) := by
    rw [List.getElem?_replicate, if_pos hin] at hi
    exact (Option.some.inj hi).symm
  cases he
  have hc : ∀ j, j < n * 6 → cs[j]? = some ((#[Value.int .i64 0, .pointer none, .int .i64 0, .pointer none, .int .i64 0, .bool false] : Array Value)[j % 6]!) := by
    intro j hj
    have h1 : cs.toList.take (n * 6) = cs.toList := List.take_of_length_le (by simp [hs])
    rw [h1] at ht
    rw [← Array.getElem?_toList, ht]
    simp only [madeCells, Value.cells, Array.getElem?_toList, Array.getElem?_map, Array.getElem?_range]
    rw [if_pos hj]
    rfl
  have m0 : 6 * i % 6 = 0 := by omega
  have m1 : (6 * i + 1) % 6 = 1 := by omega
  have m2 : (6 * i + 2) % 6 = 2 := by omega
  have m3 : (6 * i + 3) % 6 = 3 := by omega
  have m4 : (6 * i + 4) % 6 = 4 := by omega
  have m5 : (6 * i + 5) % 6 = 5 := by omega
  refine ⟨?_, ?_, ?_, ?_, ?_, ?_⟩
  · rw [hc _ (by omega), m0]; rfl
  · rw [hc _ (by omega), m1]; rfl
  · rw [hc _ (by omega), m2]; rfl
  · rw [hc _ (by omega), m3]; rfl
  · rw [hc _ (by omega), m4]; rfl
  · rw [hc _ (by omega), m5]; rfl

theorem run_copy_rows {P : Program} {w : World} (dT ty elem : TypeId) (size g n cap : Nat) (g2 cap2 : Nat) (b1 b2 : Nat) (xs cs : List Value)
    (hu : P.underlying dT = some (.slice elem)) (hs : (P.info? elem).map (·.size) = some size)
    (hd : w.ownsRow b1 elem size (.slice (some ⟨g, 0, none⟩) n cap) n xs) (hsrc : w.ownsRow b2 elem size (.slice (some ⟨g2, 0, none⟩) n cap2) n cs) (h1 : ∀ v ∈ cs, v.oneCell' = true) :
    ∃ w', (Builtin.copy_ #[dT, dT] ty #[.slice (some ⟨g, 0, none⟩) n cap, .slice (some ⟨g2, 0, none⟩) n cap2]).run P w = .ok (goInt n) w' ∧ w'.ownsRow b1 elem size (.slice (some ⟨g, 0, none⟩) n cap) n cs ∧ w.grownBy w' (some g) := by
  obtain ⟨hl1, h2⟩ := hd
  rcases h2 with ⟨h2, _⟩ | ⟨g', cap', cur, hv, hb, hg, hnc, hcm, hcs, htk⟩
  · cases h2
  simp only [Value.slice.injEq, Option.some.injEq, Addr.mk.injEq, true_and, and_true] at hv
  obtain ⟨rfl, rfl⟩ := hv
  have hcl := hsrc.1
  have hlc : cs.length ≤ cur.size := by rw [hcl, hcs]; exact Nat.mul_le_mul_right _ hnc
  have hl := run_loadCells_list (P := P) w ⟨g2, 0, none⟩ cs (fun j v hj => by
    have hjl := (List.getElem?_eq_some_iff.1 hj).1
    rw [Addr.add_lit, Nat.zero_add, hsrc.cellAt j (by omega)]
    exact hj)
  have hst := run_storeCells_at P g 0 elem cs 0 cur w hg (by simpa using hlc) h1
  simp only [Nat.zero_add, List.take_zero, List.nil_append] at hst
  refine ⟨w.setRow g (cs ++ cur.toList.drop cs.length).toArray, ?_, ⟨hcl, .inr ⟨g, cap, (cs ++ cur.toList.drop cs.length).toArray, rfl, hb, setRow_heap w g cur _ elem _ hg, hnc, hcm, ?_, ?_⟩⟩, ⟨rfl, rfl, rfl, by simp [World.setRow], fun k _ hne => ?_⟩⟩
  · cases hq : P.info? elem with
    | none => simp [hq] at hs
    | some i =>
      have hi : i.size = size := by simpa [hq] using hs
      rw [hcl] at hl
      simp [Builtin.copy_, run_underlying hu, Builtin.lenOf, Builtin.firstCells, sizeOf, typeInfo, hq, hi, hl, hst]
  · simp; omega
  · simp
    rw [List.take_append_of_le_length (by omega), List.take_of_length_le (by omega)]
  · simp only [World.setRow]
    rw [Array.getElem?_modify, if_neg (fun e => hne (by rw [e]))]
end Go.Proofs.YbulkblmiDoor
