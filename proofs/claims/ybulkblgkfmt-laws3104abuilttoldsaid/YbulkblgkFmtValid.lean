/-
  THE WALKS, 2: strings.IndexFunc at notNameRune; fmt.Errorf at the two formats; ValidName; ValidParticipant.
-/
import Derived.Test.YbulkblgkFmtWalks
namespace Go.Proofs.YbulkblgkFmt
open Go.RowKit Go.Extern.Stop Go.Stop Go.Extern

set_option maxHeartbeats 2000000 in
set_option maxRecDepth 100000 in
/-- strings.indexFunc(s, notNameRune, true): -1 where every byte is of the alphabet, else a place. -/
theorem indexFunc_any (s : ByteArray) (w : World) :
    Calls Ybaf.prog 13 #[.string s, .func (.func 10) #[] #[], .bool true] w fun e w' => ∃ i : Int, e = .returned (.int .i64 i) ∧ (allOk s.data.toList = true → i = -1) ∧ (allOk s.data.toList = false → 0 ≤ i) ∧ Below w.heap.size w w' := by
  go_enter Ybaf.func13, Ybaf.ntmps13
  go_wp2
  go_loopg [] s.size (fun gf wx => ∃ pos : Nat, wx.heap[w.heap.size]? = some (.stringIter s pos) ∧ Below w.heap.size w wx ∧ (∀ (j : Nat) (hj : j < s.size), j < pos → okB (s[j].toNat : Int) = true) ∧ s.size ≤ pos + gf)
  case atStart => exact ⟨0, World.iter_heap w s 0, (Below.refl _ w).alloc (Nat.le_refl _) _, fun j _ h => absurd h (by omega), by omega⟩
  case round =>
    obtain ⟨pos, hit, hbw, hleft, hfu⟩ := hrel
    by_cases hps : pos < s.size
    · obtain ⟨g', rfl⟩ : ∃ g', gk = g' + 1 := ⟨gk - 1, by omega⟩
      have hnx : ∀ ty, (Instr.next (.pointer (some ⟨w.heap.size, 0, none⟩)) true ty).run Ybaf.prog wr = _ := fun ty => Lib.run_next_any_at wr w.heap.size s pos ty hit hps
      cases hok : okB (s[pos].toNat : Int) with
      | true =>
        have hd := dec_ok s pos hps hok
        rw [hd] at hnx
        have hit2 := Lib.iterAt_heap wr w.heap.size s pos (pos + 1) hit
        have hbw2 := Lib.below_iterAt hbw (k := w.heap.size) (Nat.le_refl _) s (pos + 1)
        have hleft2 : ∀ (j : Nat) (hj : j < s.size), j < pos + 1 → okB (s[j].toNat : Int) = true := fun j hj h => by
          by_cases e : j = pos
          · subst e; exact hok
          · exact hleft j hj (by omega)
        have HL := hide hleft2
        clear hleft hleft2 hd
        have HO := hide hok
        generalize hR : s[pos].toNat = R at *
        have cS := notName_any (R : Int) (wr.iterAt w.heap.size s (pos + 1))
        rw [unhide HO] at cS
        clear hR HO
        obtain ⟨W, hWd⟩ : ∃ W, wr.iterAt w.heap.size s (pos + 1) = W := ⟨_, rfl⟩
        rw [hWd] at hnx hit2 hbw2 cS
        clear hWd hok
        go_wp2_with fail
        refine cS.mono ?_
        rintro e W' ⟨rfl, rfl⟩
        go_wp2
        go_roundg g'
        case measure => omega
        case rel => exact ⟨pos + 1, hit2, hbw2, unhide HL, by omega⟩
      | false =>
        have hd := dec_bad s pos hps hok
        have hno := allOk_not s pos hps hok
        obtain ⟨R, hR⟩ : ∃ R, (Utf8.decode s pos).1 = R := ⟨_, rfl⟩
        obtain ⟨K, hK⟩ : ∃ K, (Utf8.decode s pos).2 = K := ⟨_, rfl⟩
        rw [hR] at hd hnx
        rw [hK] at hnx
        have hbw2 := Lib.below_iterAt hbw (k := w.heap.size) (Nat.le_refl _) s (pos + K)
        have cS := notName_any (R : Int) (wr.iterAt w.heap.size s (pos + K))
        rw [hd] at cS
        obtain ⟨W, hWd⟩ : ∃ W, wr.iterAt w.heap.size s (pos + K) = W := ⟨_, rfl⟩
        rw [hWd] at hnx hbw2 cS
        have HN := hide hno
        clear hWd hok hd hR hK hno hleft
        go_wp2_with fail
        refine cS.mono ?_
        rintro e W' ⟨rfl, rfl⟩
        go_wp2
        go_ret
        exact ⟨_, rfl, (fun h => by rw [unhide HN] at h; cases h), (fun _ => by omega), hbw2⟩
    · have hnx : ∀ ty, (Instr.next (.pointer (some ⟨w.heap.size, 0, none⟩)) true ty).run Ybaf.prog wr = _ := fun ty => Lib.run_next_end_at wr w.heap.size s pos ty hit hps
      have hall := allOk_of s (fun j hj => hleft j hj (by omega))
      have HA := hide hall
      clear hleft hall
      go_wp2
      go_ret
      exact ⟨_, rfl, fun _ => rfl, (fun h => by rw [unhide HA] at h; cases h), hbw⟩

set_option maxHeartbeats 400000 in
theorem IndexFunc_any (s : ByteArray) (w : World) :
    Calls Ybaf.prog 9 #[.string s, .func (.func 10) #[] #[]] w fun e w' => ∃ i : Int, e = .returned (.int .i64 i) ∧ (allOk s.data.toList = true → i = -1) ∧ (allOk s.data.toList = false → 0 ≤ i) ∧ Below w.heap.size w w' := by
  go_enter Ybaf.func9, Ybaf.ntmps9
  go_wp2_with fail
  refine (indexFunc_any s _).mono ?_
  rintro e w' ⟨i, rfl, h1, h2, hb⟩
  have H1 := hide h1
  have H2 := hide h2
  clear h1 h2
  go_wp2
  go_ret
  exact ⟨i, rfl, unhide H1, unhide H2, hb⟩

attribute [local go_sem] call11 guard_ok op9_113w ptr35 elem35 isError35 ptr33 elem33

/-- fmt.Errorf("a shard name must be .. not %q", name): an error, never nil. -/
theorem errB_any (F : Interp) (s : ByteArray) (blk : Nat) (w : World) (hF : F.answers w.tape)
    (hc0 : w.cell? ⟨blk, 0, none⟩ = some (.iface 9 (.string s))) :
    Calls Ybaf.prog 8 #[.string fmtB, .slice (some ⟨blk, 0, none⟩) 1 1] w fun e w' =>
      ∃ x : ByteArray, e = .returned (.iface 35 (.pointer (some ⟨w.heap.size, 0, none⟩))) ∧ w' = (w.alloc (.cells #[.string x] 37)).drew := by
  have hF' := answers_open hF
  have hr := fmtB_r
  go_enter Ybaf.func8, Ybaf.ntmps8
  go_wp2
  go_ret
  exact ⟨_, rfl, rfl⟩

/-- fmt.Errorf("participant %q: %w", name, err): an error, never nil. -/
theorem errA_any (F : Interp) (s x : ByteArray) (blk : Nat) (a : Addr) (w : World) (hF : F.answers w.tape)
    (hc0 : w.cell? ⟨blk, 0, none⟩ = some (.iface 9 (.string s))) (hc1 : w.cell? ⟨blk, 1, none⟩ = some (.iface 35 (.pointer (some a)))) (hx : w.cell? a = some (.string x)) :
    Calls Ybaf.prog 8 #[.string fmtA, .slice (some ⟨blk, 0, none⟩) 2 2] w fun e w' =>
      ∃ y : ByteArray, e = .returned (.iface 33 (.pointer (some ⟨w.heap.size, 0, none⟩))) ∧ w' = (w.alloc (.cells #[.string y, .iface 35 (.pointer (some a))] 55)).drew := by
  have hF' := answers_open hF
  have hr := fmtA_r
  have hop := opPlain35_119w "fmt.errorf" a x w hx
  go_enter Ybaf.func8, Ybaf.ntmps8
  go_wp2
  go_ret
  exact ⟨_, rfl, rfl⟩

theorem toList_empty (s : ByteArray) : s.toList.isEmpty = decide (s.size = 0) := by
  rw [ByteArray.toList_eq, Lib.size_eq]
  cases s.data.toList <;> simp

/-- ValidName: nil at a good name. -/
theorem validName_good (s : ByteArray) (w : World) (hg : good s = true) :
    Calls Ybaf.prog 7 #[.string s] w fun e w' => e = .returned .nilIface ∧ Below w.heap.size w w' := by
  simp only [good, Bool.and_eq_true, decide_eq_true_eq] at hg
  obtain ⟨⟨h1, h2⟩, h3⟩ := hg
  have e0 : s.toList.isEmpty = false := by rw [toList_empty]; exact decide_eq_false (by omega)
  have H3 := hide h3
  clear h3
  have d64 : decide (64 < (s.size : Int)) = false := by simp; omega
  go_enter Ybaf.func7, Ybaf.ntmps7
  go_wp2_with fail
  refine (IndexFunc_any s _).mono ?_
  rintro e w' ⟨i, rfl, k1, _, hb⟩
  have k2 := k1 (unhide H3)
  subst k2
  clear k1
  go_wp2
  go_ret
  exact ⟨rfl, hb⟩

/-- ValidName: an error of fmt.Errorf's make at any other name. -/
theorem validName_bad (F : Interp) (s : ByteArray) (w : World) (hF : F.answers w.tape) (hg : good s = false) :
    Calls Ybaf.prog 7 #[.string s] w fun e w' => ∃ (k : Nat) (x : ByteArray), e = .returned (.iface 35 (.pointer (some ⟨k, 0, none⟩))) ∧ k < w'.heap.size ∧ w'.cell? ⟨k, 0, none⟩ = some (.string x) ∧ Below w.heap.size w w' := by
  have cE : ∀ W : World, Below w.heap.size w W → ∀ hc0, Calls Ybaf.prog 8 #[.string fmtB, .slice (some ⟨W.heap.size, 0, none⟩) 1 1] (W.alloc (.cells #[.iface 9 (.string s)] 20)) _ :=
    fun W hW hc0 => errB_any F s W.heap.size (W.alloc (.cells #[.iface 9 (.string s)] 20)) (by show F.answers W.tape; rw [hW.tape]; exact hF) hc0
  unfold fmtB at cE
  by_cases h1 : s.size = 0
  · have e0 : s.toList.isEmpty = true := by rw [toList_empty]; simp [h1]
    have HE := hide (cE w (Below.refl _ _) (by simp))
    clear hg cE
    go_enter Ybaf.func7, Ybaf.ntmps7
    go_wp2_with fail
    refine (unhide HE).mono ?_
    rintro e w' ⟨x, rfl, rfl⟩
    clear HE
    go_wp2
    go_ret
    exact ⟨_, x, rfl, by simp, by simp, by repeat (first | exact Below.refl _ _ | apply Below.drew | refine Below.alloc ?_ (by simp) _)⟩
  · have e0 : s.toList.isEmpty = false := by rw [toList_empty]; exact decide_eq_false h1
    by_cases h2 : 64 < s.size
    · have HE := hide (cE w (Below.refl _ _) (by simp))
      clear hg cE
      have d64 : decide (64 < (s.size : Int)) = true := by simp; omega
      go_enter Ybaf.func7, Ybaf.ntmps7
      go_wp2_with fail
      refine (unhide HE).mono ?_
      rintro e w' ⟨x, rfl, rfl⟩
      clear HE
      go_wp2
      go_ret
      exact ⟨_, x, rfl, by simp, by simp, by repeat (first | exact Below.refl _ _ | apply Below.drew | refine Below.alloc ?_ (by simp) _)⟩
    · have d64 : decide (64 < (s.size : Int)) = false := by simp; omega
      have h3 : allOk s.data.toList = false := by
        cases h : allOk s.data.toList with
        | false => rfl
        | true =>
          rw [show good s = true from by simp only [good, h, Bool.and_true, Bool.and_eq_true, decide_eq_true_eq]; omega] at hg
          cases hg
      have H3 := hide h3
      have HE := hide cE
      clear h3 hg cE
      go_enter Ybaf.func7, Ybaf.ntmps7
      go_wp2_with fail
      refine (IndexFunc_any s _).mono ?_
      rintro e w1 ⟨i, rfl, _, k1, hb⟩
      have k2 := k1 (unhide H3)
      clear k1
      have HE1 := hide ((unhide HE) w1 hb (by simp))
      clear HE
      have di : decide (0 ≤ i) = true := by simpa using k2
      go_wp2_with fail
      refine (unhide HE1).mono ?_
      rintro e w' ⟨x, rfl, rfl⟩
      clear HE1
      go_wp2
      go_ret
      exact ⟨_, x, rfl, by simp, by simp, by have := hb.size; repeat (first | exact hb | apply Below.drew | refine Below.alloc ?_ (by first | omega | (simp; omega)) _)⟩

/-- ValidParticipant: nil at a good name. -/
theorem validPart_good (s : ByteArray) (w : World) (hg : good s = true) :
    Calls Ybaf.prog 6 #[.string s] w fun e w' => e = .returned .nilIface ∧ Below w.heap.size w w' := by
  have HG := hide hg
  clear hg
  go_enter Ybaf.func6, Ybaf.ntmps6
  go_wp2_with fail
  refine (validName_good s _ (unhide HG)).mono ?_
  rintro e w1 ⟨rfl, hb⟩
  go_wp2
  go_ret
  exact ⟨rfl, hb⟩

/-- ValidParticipant: an error, not nil, at any other name. -/
theorem validPart_bad (F : Interp) (s : ByteArray) (w : World) (hF : F.answers w.tape) (hg : good s = false) :
    Calls Ybaf.prog 6 #[.string s] w fun e w' => ∃ a : Addr, e = .returned (.iface 33 (.pointer (some a))) ∧ Below w.heap.size w w' := by
  have HG := hide hg
  clear hg
  have HF := hide hF
  clear hF
  go_enter Ybaf.func6, Ybaf.ntmps6
  go_wp2_with fail
  refine (validName_bad F s _ (unhide HF) (unhide HG)).mono ?_
  rintro e w1 ⟨k, x, rfl, hk, hx, hb⟩
  have cE := errA_any F s x w1.heap.size ⟨k, 0, none⟩ (w1.alloc (.cells #[.iface 9 (.string s), .iface 35 (.pointer (some ⟨k, 0, none⟩))] 20)) (by show F.answers w1.tape; rw [hb.tape]; exact unhide HF) (by simp) (by simp) (by rw [World.cell?_alloc_past _ _ _ hk]; exact hx)
  unfold fmtA at cE
  have HE := hide cE
  clear cE hx hk
  go_wp2_with fail
  refine (unhide HE).mono ?_
  rintro e w' ⟨y, rfl, rfl⟩
  clear HE
  go_wp2
  go_ret
  exact ⟨_, rfl, by have := hb.size; repeat (first | exact hb | apply Below.drew | refine Below.alloc ?_ (by first | omega | (simp; omega)) _)⟩

end Go.Proofs.YbulkblgkFmt
