/-
  slices.IndexFunc, slices.DeleteFunc at the grown results.
-/
import Derived.Test.YbulkblmiDoorBlocks
import Derived.Deep.WholeRow
import Derived.Lib.SliceRun
namespace Go.Proofs.YbulkblmiDoor
open Go.RowKit

abbrev grV (r : Nat) (t : Bool) : Value := .agg #[.int .i64 r, .pointer none, .int .i64 0, .pointer none, .int .i64 0, .bool t]

set_option maxRecDepth 100000 in
theorem took_calls (r : Nat) (t : Bool) (w : World) :
    Calls Ybad.prog 14 #[grV r t] w fun e w' => e = .returned (.bool t) ∧ w' = w.alloc (.cells #[.int .i64 r, .pointer none, .int .i64 0, .pointer none, .int .i64 0, .bool t] 43) := by
  go_enter Ybad.func14, Ybad.ntmps14
  go_wp2
  simp [bodyPost, results, go_sem]

/-- The grown results lie in block b. -/
def GR (w : World) (b : Nat) (l : List (Nat × Bool)) : Prop :=
  ∃ cs, Blk w b cs 43 ∧ cs.size = 6 * l.length ∧ ∀ i r t, l[i]? = some (r, t) →
    cs[6 * i]? = some (.int .i64 r) ∧ cs[6 * i + 1]? = some (.pointer none) ∧ cs[6 * i + 2]? = some (.int .i64 0) ∧ cs[6 * i + 3]? = some (.pointer none) ∧ cs[6 * i + 4]? = some (.int .i64 0) ∧ cs[6 * i + 5]? = some (.bool t)

section
variable {w : World} {b : Nat} {l : List (Nat × Bool)}
theorem GR.lt (h : GR w b l) : b < w.heap.size := by obtain ⟨cs, hb, _⟩ := h; exact hb.lt
theorem GR.frozen (h : GR w b l) (i : Nat) : w.frozen? ⟨b, i, none⟩ = false := by obtain ⟨cs, hb, _⟩ := h; exact hb.frozen i
theorem GR.cells (h : GR w b l) {i r : Nat} {t : Bool} (hi : l[i]? = some (r, t)) (o : Nat) (ho : o = 6 * i) : w.cell? ⟨b, o, none⟩ = some (.int .i64 r) ∧ w.cell? ⟨b, o + 1, none⟩ = some (.pointer none) ∧ w.cell? ⟨b, o + 2, none⟩ = some (.int .i64 0) ∧
    w.cell? ⟨b, o + 3, none⟩ = some (.pointer none) ∧ w.cell? ⟨b, o + 4, none⟩ = some (.int .i64 0) ∧ w.cell? ⟨b, o + 5, none⟩ = some (.bool t) := by
  subst ho
  obtain ⟨cs, hb, _, hc⟩ := h
  obtain ⟨h0, h1, h2, h3, h4, h5⟩ := hc i r t hi
  exact ⟨hb.cell _ h0, hb.cell _ h1, hb.cell _ h2, hb.cell _ h3, hb.cell _ h4, hb.cell _ h5⟩
theorem GR.there (h : GR w b l) (i : Nat) (hi : i < 6 * l.length) : (w.cell? ⟨b, i, none⟩).isSome = true := by
  obtain ⟨cs, hb, hs, _⟩ := h
  rw [hb.cell i (Array.getElem?_eq_getElem (by omega))]; rfl
theorem GR.alloc (h : GR w b l) (o : Obj) : GR (w.alloc o) b l := by obtain ⟨cs, hb, h⟩ := h; exact ⟨cs, hb.alloc o, h⟩
theorem GR.turns (h : GR w b l) {w' : World} {T : Nat → Prop} (ht : Turns w w' T) (hn : ¬ T b) : GR w' b l := by obtain ⟨cs, hb, h⟩ := h; exact ⟨cs, hb.turns ht hn, h⟩
theorem GR.set (h : GR w b l) (j r : Nat) (t : Bool) (hj : j < l.length) (o : Nat) (ho : o = 6 * j) :
    GR ((((((w.setCell ⟨b, o, none⟩ (.int .i64 r)).setCell ⟨b, o + 1, none⟩ (.pointer none)).setCell ⟨b, o + 2, none⟩ (.int .i64 0)).setCell ⟨b, o + 3, none⟩ (.pointer none)).setCell ⟨b, o + 4, none⟩ (.int .i64 0)).setCell ⟨b, o + 5, none⟩ (.bool t)) b (l.set j (r, t)) := by
  subst ho
  obtain ⟨cs, hb, hs, hc⟩ := h
  refine ⟨_, (((((hb.set _ _).set _ _).set _ _).set _ _).set _ _).set _ _, by simp [hs], ?_⟩
  intro i r' t' hi
  by_cases hij : i = j
  · subst hij
    rw [List.getElem?_set_self hj] at hi
    cases hi
    simp [Array.getElem?_setIfInBounds, hs]
    omega
  · rw [List.getElem?_set_ne (fun e => hij e.symm)] at hi
    obtain ⟨h0, h1, h2, h3, h4, h5⟩ := hc i r' t' hi
    have ne : ∀ a c : Nat, a < 6 → c < 6 → 6 * j + c ≠ 6 * i + a := fun a c ha hc => by omega
    refine ⟨?_, ?_, ?_, ?_, ?_, ?_⟩ <;> (repeat rw [Array.getElem?_setIfInBounds_ne (by omega)]) <;> assumption
end

/-- Where the first result that took its seed lies. -/
def firstTook : List (Nat × Bool) → Nat
  | [] => 0
  | x :: r => if x.2 then 0 else firstTook r + 1

theorem firstTook_le (l : List (Nat × Bool)) : firstTook l ≤ l.length := by
  induction l with
  | nil => simp [firstTook]
  | cons x r ih => unfold firstTook; split <;> simp <;> omega
theorem firstTook_lt {l : List (Nat × Bool)} {i r : Nat} {t : Bool} (hi : i ≤ firstTook l) (h : l[i]? = some (r, t)) : (t = true → firstTook l = i) ∧ (t = false → i + 1 ≤ firstTook l) := by
  induction l generalizing i with
  | nil => simp at h
  | cons x l ih =>
    unfold firstTook at hi ⊢
    cases i with
    | zero =>
      simp at h
      subst h
      cases t <;> simp
    | succ i =>
      simp at h
      split at hi
      · omega
      · rename_i hx
        rw [if_neg hx]
        have := ih (by omega) h
        constructor
        · intro ht; rw [this.1 ht]
        · intro ht; have := this.2 ht; omega

set_option maxRecDepth 100000 in
theorem index_calls (b a n c : Nat) (l : List (Nat × Bool)) (w : World) (hG : GR w b l) (hl : l.length = a + n) (hn : n ≤ 1024) :
    Calls Ybad.prog 21 #[.slice (some ⟨b, 6 * a, none⟩) n c, .func (.func 14) #[] #[]] w fun e w' => e = .returned (.int .i64 (if firstTook (l.drop a) < n then (firstTook (l.drop a) : Int) else -1)) ∧ Below w.heap.size w w' := by
  have HG := hide hG
  obtain ⟨F, hF⟩ : ∃ F, firstTook (l.drop a) = F := ⟨_, rfl⟩
  have HF := hide hF
  have hFn : F ≤ n := by have := firstTook_le (l.drop a); simp at this; omega
  rw [hF]
  clear hG hF
  go_enter Ybad.func21, Ybad.ntmps21
  go_wp2
  go_loopw [8] (fun v wr => ∃ i : Nat, i ≤ F ∧ v = .int .i64 i ∧ Below w.heap.size w wr) (fun v _ => n - (intOf v).toNat)
  case atStart => exact ⟨0, Nat.zero_le _, rfl, Below.refl _ _⟩
  case round =>
    obtain ⟨i, hi, rfl, hB⟩ := hrel
    by_cases hlt : i < n
    · obtain ⟨⟨r, t⟩, hx⟩ : ∃ x, l[a + i]? = some x := ⟨_, List.getElem?_eq_getElem (by omega)⟩
      have hft := firstTook_lt (l := l.drop a) (i := i) (r := r) (t := t) (by rw [unhide HF]; exact hi) (by rw [List.getElem?_drop]; exact hx)
      rw [unhide HF] at hft
      have hG : GR wr b l := (unhide HG).turns (T := fun _ => False) ((Turns.refl w _).below hB) (fun h => h)
      obtain ⟨c0, c1, c2, c3, c4, c5⟩ := hG.cells hx (6 * a + i * 6) (by omega)
      have HFT := hide hft
      have HB := hide hB
      clear hG hft hB hx
      go_wp2_with fail
      refine (took_calls _ _ _).mono ?_
      rintro e w' ⟨rfl, rfl⟩
      have hB' := (unhide HB).alloc (unhide HB).size (.cells #[.int .i64 r, .pointer none, .int .i64 0, .pointer none, .int .i64 0, .bool t] 43)
      obtain ⟨W', hW'⟩ : ∃ W', wr.alloc (.cells #[.int .i64 r, .pointer none, .int .i64 0, .pointer none, .int .i64 0, .bool t] 43) = W' := ⟨_, rfl⟩
      rw [hW'] at hB' ⊢
      clear hW' c0 c1 c2 c3 c4 c5 HB
      cases t with
      | true =>
        have hF := (unhide HFT).1 rfl
        go_wp2
        go_ret
        subst hF
        exact ⟨rfl, hB'⟩
      | false =>
        have hF := (unhide HFT).2 rfl
        go_wp2
        go_roundw
        case rel => exact ⟨i + 1, hF, by simp, hB'⟩
        case measure => simp [intOf]; omega
    · obtain rfl : F = n := by omega
      obtain rfl : i = F := by omega
      go_wp2
      go_ret
      exact ⟨rfl, hB⟩

set_option maxRecDepth 100000 in
theorem index_zero (ao : Option Addr) (w : World) :
    Calls Ybad.prog 21 #[.slice ao 0 0, .func (.func 14) #[] #[]] w fun e w' => e = .returned (.int .i64 (-1)) ∧ Below w.heap.size w w' := by
  go_enter Ybad.func21, Ybad.ntmps21
  go_wp2
  go_loopw [8] (fun v wr => v = .int .i64 0 ∧ Below w.heap.size w wr) (fun _ _ => 0)
  case atStart => exact ⟨rfl, Below.refl _ _⟩
  case round =>
    obtain ⟨rfl, hB⟩ := hrel
    go_wp2
    go_ret
    exact ⟨rfl, hB⟩

/-- What stays of a row of results: those that took no seed. -/
def kept (l : List (Nat × Bool)) : List (Nat × Bool) := l.filter (fun x => !x.2)

theorem kept_le (l : List (Nat × Bool)) : (kept l).length ≤ l.length := List.length_filter_le _ _
theorem kept_first (l : List (Nat × Bool)) (h : firstTook l < l.length) : kept (l.take (firstTook l + 1)) = l.take (firstTook l) := by
  induction l with
  | nil => simp at h
  | cons x r ih =>
    obtain ⟨a, t⟩ := x
    unfold firstTook at h ⊢
    cases t with
    | true => simp [kept]
    | false =>
      simp at h ⊢
      have := ih h
      simp [kept] at this ⊢
      exact this
theorem kept_none (l : List (Nat × Bool)) (h : l.length ≤ firstTook l) : kept l = l := by
  induction l with
  | nil => rfl
  | cons x r ih =>
    obtain ⟨a, t⟩ := x
    unfold firstTook at h
    cases t with
    | true => simp at h
    | false =>
      simp at h
      have := ih h
      simp [kept] at this ⊢
      exact this
theorem kept_step {l : List (Nat × Bool)} {j r : Nat} {t : Bool} (h : l[j]? = some (r, t)) : kept (l.take (j + 1)) = kept (l.take j) ++ (if t then [] else [(r, t)]) := by
  rw [List.take_add_one, h]
  unfold kept
  rw [List.filter_append]
  cases t <;> simp

theorem info43 : (Ybad.prog.info? 43).map (fun i => (i.zero, i.size)) = some (some (.agg #[.int .i64 0, .pointer none, .int .i64 0, .pointer none, .int .i64 0, .bool false]), 6) := by kernel_rfl

abbrev z6 : List Value := [.int .i64 0, .pointer none, .int .i64 0, .pointer none, .int .i64 0, .bool false]
def zs : Nat → List Value
  | 0 => []
  | n + 1 => z6 ++ zs n
theorem zs_length (n : Nat) : (zs n).length = 6 * n := by
  induction n with
  | zero => rfl
  | succ n ih => simp [zs, ih]; omega
theorem zs_get (n i : Nat) (h : i < 6 * n) : (zs n)[i]? = z6[i % 6]? := by
  induction n generalizing i with
  | zero => omega
  | succ n ih =>
    rw [zs]
    by_cases hi : i < 6
    · rw [List.getElem?_append_left (by simpa using hi), Nat.mod_eq_of_lt hi]
    · rw [List.getElem?_append_right (by simp; omega), ih _ (by simp; omega)]
      congr 1
      simp
      omega
theorem zs_one (n : Nat) : ∀ v ∈ zs n, v.oneCell' = true := by
  induction n with
  | zero => simp [zs]
  | succ n ih =>
    intro v hv
    rw [zs, List.mem_append] at hv
    rcases hv with hv | hv
    · simp at hv
      rcases hv with rfl | rfl | rfl | rfl | rfl | rfl <;> rfl
    · exact ih v hv

theorem run_clear6 (w : World) (ty : TypeId) (b o n c : Nat) (hn : 0 < n) (hc : ∀ j, j < 6 * n → (w.cell? ⟨b, o + j, none⟩).isSome = true) (hf : ∀ j, j < 6 * n → w.frozen? ⟨b, o + j, none⟩ = false) :
    (Builtin.clear_ #[36] ty #[.slice (some ⟨b, o, none⟩) n c]).run Ybad.prog w = .ok (.tuple #[]) (w.setCells b o (zs n)) := by
  have hv := (zero_of_info (P := Ybad.prog) info43).1
  have hzc : (Builtin.zeroCells (Value.agg #[.int .i64 0, .pointer none, .int .i64 0, .pointer none, .int .i64 0, .bool false]).cells n).toList = zs n := by
    apply List.ext_getElem?
    intro i
    by_cases hi : i < 6 * n
    · rw [zs_get n i hi]
      have h6 : i % 6 = 0 ∨ i % 6 = 1 ∨ i % 6 = 2 ∨ i % 6 = 3 ∨ i % 6 = 4 ∨ i % 6 = 5 := by omega
      have hi' : i < n * 6 := by omega
      simp only [Builtin.zeroCells, Value.cells, Array.getElem?_toList, Array.getElem?_map, Array.getElem?_range, List.size_toArray, List.length_cons, List.length_nil]
      rw [if_pos hi']
      rcases h6 with h | h | h | h | h | h <;> simp [h]
    · rw [List.getElem?_eq_none (by simp [Builtin.zeroCells, Value.cells]; omega), List.getElem?_eq_none (by rw [zs_length]; omega)]
  have hst := run_storeCells_cells (P := Ybad.prog) b o (zs n) 0 w (by simpa [zs_length] using hc) (by simpa [zs_length] using hf) (zs_one n)
  simp only [Nat.add_zero] at hst
  obtain ⟨m, rfl⟩ : ∃ m, n = m + 1 := ⟨n - 1, by omega⟩
  simp [Builtin.clear_, run_underlying Ybad.underlying36, hv, hzc, hst]

theorem setCells_z6 (w : World) (b o : Nat) (r : List Value) : w.setCells b o (z6 ++ r) = ((((((w.setCell ⟨b, o, none⟩ (.int .i64 0)).setCell ⟨b, o + 1, none⟩ (.pointer none)).setCell ⟨b, o + 2, none⟩ (.int .i64 0)).setCell ⟨b, o + 3, none⟩ (.pointer none)).setCell ⟨b, o + 4, none⟩ (.int .i64 0)).setCell ⟨b, o + 5, none⟩ (.bool false)).setCells b (o + 6) r := by
  simp only [World.setCells, List.cons_append, List.nil_append, Nat.add_assoc, Nat.reduceAdd]

/-- The results from j on, cleared. -/
theorem GR.clear {w : World} {b : Nat} {l : List (Nat × Bool)} (h : GR w b l) (j k : Nat) (hjk : j + k ≤ l.length) (o : Nat) (ho : o = 6 * j) : ∃ l', GR (w.setCells b o (zs k)) b l' ∧ l'.length = l.length ∧ l'.take j = l.take j := by
  induction k generalizing w j l o with
  | zero => exact ⟨l, h, rfl, rfl⟩
  | succ k ih =>
    obtain ⟨l', h1, h2, h3⟩ := ih (h.set j 0 false (by omega) o ho) (j + 1) (by simp; omega) (o + 6) (by omega)
    refine ⟨l', by rw [zs, setCells_z6]; exact h1, by simpa using h2, ?_⟩
    have : (l'.take (j + 1)).take j = ((l.set j (0, false)).take (j + 1)).take j := by rw [h3]
    rw [List.take_take, List.take_take] at this
    rw [Nat.min_eq_left (by omega), List.take_set_of_le (Nat.le_refl j)] at this
    exact this
theorem turns_setCells {a : World} {T : Nat → Prop} {b : Nat} (hb : T b ∨ a.heap.size ≤ b) : ∀ (vs : List Value) (o : Nat) (w : World), Turns a w T → Turns a (w.setCells b o vs) T
  | [], _, _, h => h
  | v :: r, o, _, h => turns_setCells hb r (o + 1) _ (h.setCell (p := ⟨b, o, none⟩) hb v)

set_option maxRecDepth 100000 in
theorem delete_zero (ao : Option Addr) (w : World) :
    Calls Ybad.prog 13 #[.slice ao 0 0, .func (.func 14) #[] #[]] w fun e w' => e = .returned (.slice ao 0 0) ∧ Below w.heap.size w w' := by
  go_enter Ybad.func13, Ybad.ntmps13
  go_wp2_with fail
  refine (index_zero ao w).mono ?_
  rintro e w' ⟨rfl, hB⟩
  go_wp2
  go_ret
  exact ⟨rfl, hB⟩

set_option maxRecDepth 100000 in
set_option maxHeartbeats 2000000 in
theorem delete_calls (b a n : Nat) (l : List (Nat × Bool)) (w : World) (hG : GR w b l) (hl : l.length = a + n) (hn : n ≤ 1024) :
    Calls Ybad.prog 13 #[.slice (some ⟨b, 6 * a, none⟩) n n, .func (.func 14) #[] #[]] w fun e w' => e = .returned (.slice (some ⟨b, 6 * a, none⟩) (kept (l.drop a)).length n) ∧
      ∃ l', GR w' b l' ∧ l'.length = l.length ∧ l'.take (a + (kept (l.drop a)).length) = l.take a ++ kept (l.drop a) ∧ Turns w w' (fun k => k = b) := by
  have hdl : (l.drop a).length = n := by simp [hl]
  have hkl := kept_le (l.drop a)
  obtain ⟨F, hF⟩ : ∃ F, firstTook (l.drop a) = F := ⟨_, rfl⟩
  obtain ⟨kl, hkq⟩ : ∃ kl, (kept (l.drop a)).length = kl := ⟨_, rfl⟩
  have hFn : F ≤ n := by have := firstTook_le (l.drop a); omega
  have hi := index_calls b a n n l w hG hl hn
  rw [hF] at hi
  rw [hkq] at hkl ⊢
  have HG := hide hG
  have HF := hide hF
  have HI := hide hi
  have HKQ := hide hkq
  have hbw := hG.lt
  clear hG hF hi hkq
  go_enter Ybad.func13, Ybad.ntmps13
  go_wp2_with fail
  refine (unhide HI).mono ?_
  rintro e w1 ⟨rfl, hB⟩
  clear HI
  have hG1 : GR w1 b l := (unhide HG).turns (T := fun _ => False) ((Turns.refl w _).below hB) (fun h => h)
  have hT1 : Turns w w1 (fun k => k = b) := (Turns.refl w _).below hB
  clear hB HG
  by_cases hlt : F < n
  · rw [if_pos hlt]
    have hF1 : ((F : Int) == -1) = false := by simp
    have HG1 := hide hG1
    have HT1 := hide hT1
    clear hG1 hT1
    go_wp2
    go_loopw [5, 6] (fun vi vj wr => ∃ (i j : Nat) (l' : List (Nat × Bool)), F < j ∧ j ≤ n ∧ vi = .int .i64 i ∧ vj = .int .i64 j ∧ i < j ∧ Hid ((kept ((l.drop a).take j)).length = i) ∧ Hid (GR wr b l') ∧ l'.length = a + n ∧ Hid (l'.take (a + i) = l.take a ++ kept ((l.drop a).take j)) ∧ Hid (l'.drop (a + j) = l.drop (a + j)) ∧ Hid (Turns w wr (fun k => k = b))) (fun _ v _ => n - (intOf v).toNat)
    case atStart =>
      have hk := kept_first (l.drop a) (by rw [unhide HF]; omega)
      rw [unhide HF] at hk
      refine ⟨F, F + 1, l, by omega, hlt, rfl, by simp, by omega, ?_, HG1, hl, ?_, rfl, HT1⟩
      · rw [hk]; show ((l.drop a).take F).length = F; rw [List.length_take]; omega
      · rw [hk]
        show l.take (a + F) = _
        rw [List.take_add]
    case round =>
      obtain ⟨i, j, l', hFj, hjn, rfl, rfl, hij, HK, HG', hl', HT, HD, HTU⟩ := hrel
      clear HG1 HT1
      by_cases hj : j < n
      · obtain ⟨⟨r, t⟩, hx⟩ : ∃ x, l'[a + j]? = some x := ⟨_, List.getElem?_eq_getElem (by omega)⟩
        obtain ⟨c0, c1, c2, c3, c4, c5⟩ := (unhide HG').cells hx (6 * a + j * 6) (by omega)
        have hxl : (l.drop a)[j]? = some (r, t) := by
          have h2 : (l'.drop (a + j))[0]? = (l.drop (a + j))[0]? := by rw [unhide HD]
          rw [List.getElem?_drop, List.getElem?_drop] at h2
          rw [List.getElem?_drop, ← hx]; exact h2.symm
        have HKS := hide (kept_step hxl)
        have HX := hide hx
        clear hx hxl
        go_wp2_with fail
        refine (took_calls _ _ _).mono ?_
        rintro e w' ⟨rfl, rfl⟩
        have hG2 := ((unhide HG').alloc (.cells #[.int .i64 r, .pointer none, .int .i64 0, .pointer none, .int .i64 0, .bool t] 43)).alloc (.cells #[.int .i64 r, .pointer none, .int .i64 0, .pointer none, .int .i64 0, .bool t] 43)
        have hT2 := ((unhide HTU).alloc (.cells #[.int .i64 r, .pointer none, .int .i64 0, .pointer none, .int .i64 0, .bool t] 43)).alloc (.cells #[.int .i64 r, .pointer none, .int .i64 0, .pointer none, .int .i64 0, .bool t] 43)
        have hV2 := (Blk.new wr #[.int .i64 r, .pointer none, .int .i64 0, .pointer none, .int .i64 0, .bool t] 43).alloc (.cells #[.int .i64 r, .pointer none, .int .i64 0, .pointer none, .int .i64 0, .bool t] 43)
        obtain ⟨W2, hW2⟩ : ∃ W2, (wr.alloc (.cells #[.int .i64 r, .pointer none, .int .i64 0, .pointer none, .int .i64 0, .bool t] 43)).alloc (.cells #[.int .i64 r, .pointer none, .int .i64 0, .pointer none, .int .i64 0, .bool t] 43) = W2 := ⟨_, rfl⟩
        rw [hW2] at hG2 hT2 hV2 ⊢
        clear hW2 c0 c1 c2 c3 c4 c5 HG' HTU
        have HT2 := hide hT2
        have HG2 := hide hG2
        cases t with
        | true =>
          clear hG2 hT2 hV2
          have hks : kept ((l.drop a).take (j + 1)) = kept ((l.drop a).take j) := by have := unhide HKS; simpa using this
          go_wp2
          go_roundw
          case rel =>
            refine ⟨i, j + 1, l', by omega, hj, rfl, by simp, by omega, ?_, HG2, hl', ?_, ?_, HT2⟩
            · rw [hks]; exact HK
            · rw [hks]; exact HT
            · show l'.drop (a + (j + 1)) = l.drop (a + (j + 1))
              rw [← Nat.add_assoc, ← List.drop_drop, unhide HD, List.drop_drop]
          case measure => simp [intOf]; omega
        | false =>
          have hks : kept ((l.drop a).take (j + 1)) = kept ((l.drop a).take j) ++ [(r, false)] := by have := unhide HKS; simpa using this
          obtain ⟨⟨ri, ti⟩, hxi⟩ : ∃ x, l'[a + i]? = some x := ⟨_, List.getElem?_eq_getElem (by omega)⟩
          obtain ⟨d0, d1, d2, d3, d4, d5⟩ := hG2.cells hxi (6 * a + i * 6) (by omega)
          have v0 := hV2.cell 0 rfl
          have v1 := hV2.cell 1 rfl
          have v2 := hV2.cell 2 rfl
          have v3 := hV2.cell 3 rfl
          have v4 := hV2.cell 4 rfl
          have v5 := hV2.cell 5 rfl
          have y0 := hG2.frozen (6 * a + i * 6)
          have y1 := hG2.frozen (6 * a + i * 6 + 1)
          have y2 := hG2.frozen (6 * a + i * 6 + 2)
          have y3 := hG2.frozen (6 * a + i * 6 + 3)
          have y4 := hG2.frozen (6 * a + i * 6 + 4)
          have y5 := hG2.frozen (6 * a + i * 6 + 5)
          clear hG2 hT2 hV2 hxi
          have HKS' := hide hks
          clear hks HKS
          go_wp2
          go_roundw
          case rel =>
            have hks := unhide HKS'
            have HK' := unhide HK
            have HT' := unhide HT
            refine ⟨i + 1, j + 1, l'.set (a + i) (r, false), by omega, hj, by simp, by simp, by omega, ?_, (unhide HG2).set (a + i) r false (by omega) _ (by omega), by simpa using hl', ?_, ?_, ?_⟩
            · show (kept ((l.drop a).take (j + 1))).length = i + 1
              rw [hks]; simp [HK']
            · show (l'.set (a + i) (r, false)).take (a + (i + 1)) = _
              rw [hks, ← List.append_assoc, ← HT', ← Nat.add_assoc, List.take_add_one, List.take_set_of_le (Nat.le_refl _), List.getElem?_set_self (by omega)]
              rfl
            · show (l'.set (a + i) (r, false)).drop (a + (j + 1)) = l.drop (a + (j + 1))
              rw [List.drop_set_of_lt (by omega), ← Nat.add_assoc, ← List.drop_drop, unhide HD, List.drop_drop]
            · exact (((((((unhide HT2).setCell (.inl rfl) _).setCell (.inl rfl) _).setCell (.inl rfl) _).setCell (.inl rfl) _).setCell (.inl rfl) _).setCell (.inl rfl) _)
          case measure => simp [intOf]; omega
      · obtain rfl : j = n := by omega
        have hkn : kept ((l.drop a).take j) = kept (l.drop a) := by rw [List.take_of_length_le (by omega)]
        have hik : kl = i := by rw [← unhide HKQ, ← hkn]; exact unhide HK
        subst hik
        have hclr := run_clear6 wr 0 b (6 * a + kl * 6) (j - kl) (j - kl) (by omega) (fun q hq => (unhide HG').there _ (by omega)) (fun q _ => (unhide HG').frozen _)
        go_wp2
        go_ret
        obtain ⟨l2, h1, h2, h3⟩ := (unhide HG').clear (a + kl) (j - kl) (by omega) (6 * a + kl * 6) (by omega)
        refine ⟨rfl, l2, h1, by omega, ?_, turns_setCells (T := fun k => k = b) (b := b) (.inl rfl) _ _ _ (unhide HTU)⟩
        rw [h3, unhide HT, hkn]
  · rw [if_neg hlt]
    have hkk : kept (l.drop a) = l.drop a := kept_none _ (by rw [unhide HF]; omega)
    obtain rfl : kl = n := by rw [← unhide HKQ, hkk]; exact hdl
    go_wp2
    go_ret
    refine ⟨rfl, l, hG1, rfl, ?_, hT1⟩
    rw [hkk, List.take_append_drop, List.take_of_length_le (by omega)]
end Go.Proofs.YbulkblmiDoor
