/-
  The walk over a rule's body; lookaheadParadoxes.
-/
import Derived.Test.YbulkblmiFmtItems
namespace Go.Proofs.YbulkblmiFmt
open Go.RowKit Go.Extern.Stop Go.Stop Go.Extern

/-- A rule's body: a choice or a sequence of its items. -/
def BodyX (w : World) (B bd : Nat) (ch : Bool) (its : List (Lk × Bool)) : Prop := bd < B ∧ ∃ (sb cap : Nat) (pos : Int) (sub : Value) (rule : Int) (em : Bool) (bs : List Nat), EX w bd (if ch = true then 0 else 1) pos (.slice (some ⟨sb, 0, none⟩) its.length cap) sub rule em ∧ (sb < B ∧ ∃ cs, Blk w sb cs 32) ∧ bs.length = its.length ∧
  ∀ (j : Nat) b oe, bs[j]? = some b → its[j]? = some oe → w.cell? ⟨sb, j, none⟩ = some (.pointer (some ⟨b, 0, none⟩)) ∧ ItemX w B b oe.1 oe.2

theorem BodyX.below {w w' : World} {B bd : Nat} {ch : Bool} {its : List (Lk × Bool)} (h : BodyX w B bd ch its) (hb : Below B w w') : BodyX w' B bd ch its := by
  obtain ⟨h1, sb, cap, pos, sub, rule, em, bs, he, ⟨hs, cs, hcs⟩, hl, hi⟩ := h
  refine ⟨h1, sb, cap, pos, sub, rule, em, bs, he.below hb h1, ⟨hs, cs, hcs.below hb hs⟩, hl, fun j b oe hj ho => ?_⟩
  obtain ⟨c, x⟩ := hi j b oe hj ho
  exact ⟨(hb.cell (p := ⟨sb, j, none⟩) hs).trans c, x.below hb⟩
theorem BodyX.mono {w : World} {B B' bd : Nat} {ch : Bool} {its : List (Lk × Bool)} (h : BodyX w B bd ch its) (hB : B ≤ B') : BodyX w B' bd ch its := by
  obtain ⟨h1, sb, cap, pos, sub, rule, em, bs, he, ⟨hs, hcs⟩, hl, hi⟩ := h
  exact ⟨by omega, sb, cap, pos, sub, rule, em, bs, he, ⟨by omega, hcs⟩, hl, fun j b oe hj ho => ⟨(hi j b oe hj ho).1, (hi j b oe hj ho).2.mono hB⟩⟩

section
variable {w w' : World} {T : Nat → Prop}
theorem EX.keep {b : Nat} {op pos : Int} {subs sub : Value} {rule : Int} {e : Bool} (ht : Turns w w' T) (hT : ∀ k cs t, T k → Blk w k cs t → t ≠ 37) (h : EX w b op pos subs sub rule e) : EX w' b op pos subs sub rule e := by
  obtain ⟨l, m, h⟩ := h
  exact ⟨l, m, h.turns ht (fun hk => hT _ _ _ hk h rfl)⟩
theorem Leaf.keep {s : Nat} {c : Option Nat} (ht : Turns w w' T) (hT : ∀ k cs t, T k → Blk w k cs t → t ≠ 37) (h : Leaf w s c) : Leaf w' s c := by
  cases c with
  | some t => obtain ⟨a, b, c, d, h⟩ := h; exact ⟨a, b, c, d, EX.keep ht hT h⟩
  | none => obtain ⟨a, b, c, d, e, h⟩ := h; exact ⟨a, b, c, d, e, EX.keep ht hT h⟩
theorem Look.keep {B b : Nat} {q : Int} {c : Option Nat} {e : Bool} (ht : Turns w w' T) (hT : ∀ k cs t, T k → Blk w k cs t → t ≠ 37) (h : Look w B b q c e) : Look w' B b q c e := by
  obtain ⟨h1, op, s, subs, rule, ho, he, hs, hl⟩ := h
  exact ⟨h1, op, s, subs, rule, ho, EX.keep ht hT he, hs, Leaf.keep ht hT hl⟩
theorem ItemX.keep {B b : Nat} {o : Lk} {e : Bool} (ht : Turns w w' T) (hT : ∀ k cs t, T k → Blk w k cs t → t ≠ 37) (h : ItemX w B b o e) : ItemX w' B b o e := by
  match o, h with
  | none, h =>
    obtain ⟨h1, op, pos, subs, sub, rule, ho, he⟩ := h
    exact ⟨h1, op, pos, subs, sub, rule, ho, EX.keep ht hT he⟩
  | some (q, c), .inl h => exact .inl (Look.keep ht hT h)
  | some (q, c), .inr ⟨h1, s, pos, subs, rule, e', he, hl⟩ => exact .inr ⟨h1, s, pos, subs, rule, e', EX.keep ht hT he, Look.keep ht hT hl⟩
theorem BodyX.keep {B bd : Nat} {ch : Bool} {its : List (Lk × Bool)} (ht : Turns w w' T) (hT : ∀ k cs t, T k → Blk w k cs t → t ≠ 37) (hT2 : ∀ k cs t, T k → Blk w k cs t → t ≠ 32) (h : BodyX w B bd ch its) : BodyX w' B bd ch its := by
  obtain ⟨h1, sb, cap, pos, sub, rule, em, bs, he, ⟨hs, cs, hcs⟩, hl, hi⟩ := h
  have hn : ¬ T sb := fun hk => hT2 _ _ _ hk hcs rfl
  refine ⟨h1, sb, cap, pos, sub, rule, em, bs, EX.keep ht hT he, ⟨hs, cs, hcs.turns ht hn⟩, hl, fun j b oe hj ho => ?_⟩
  obtain ⟨c, x⟩ := hi j b oe hj ho
  exact ⟨(ht.cell (p := ⟨sb, j, none⟩) hcs.lt hn).trans c, ItemX.keep ht hT x⟩
end

theorem outs_len (R : Nat → Nat → Bool) (i : Nat) (l : List Lk) : (l.flatMap (outOf R i)).length ≤ l.length := by
  induction l with
  | nil => simp
  | cons o r ih =>
    have : (outOf R i o).length ≤ 1 := by
      unfold outOf
      split
      · split <;> simp
      · simp
    simp only [List.flatMap_cons, List.length_append, List.length_cons]
    omega

section
variable {F : Interp} {w0 : World} {R : Nat → Nat → Bool} {E : Nat → List Nat} {cc ic rc fc cb n i B : Nat}

theorem body_at (hx : FixedAt F w0 R E fc cb n i B) (bd : Nat) (ch : Bool) (its : List (Lk × Bool)) (ps : List Int) (w : World) (hps : ps.length + its.length ≤ 4096) (hil : its.length ≤ 1024) (hl : BodyX w0 B bd ch its) (hc : ∀ oe ∈ its, okL n oe.1) (hI : StateIs w0 E cc ic rc fc cb n i B ps w) :
    Calls Ybaf.prog 7 #[.pointer (some ⟨bd, 0, none⟩), .func (.func 8) #[] (caps cc ic rc fc)] w fun r w' => r = .returned (.tuple #[]) ∧ StateIs w0 E cc ic rc fc cb n i B (ps ++ (walked ch its).flatMap (outOf R i)) w' := by
  obtain ⟨h1, sb, cap, pos, sub, rule, em, bs, he, ⟨hs, _⟩, hbl, hi⟩ := hl
  have key : ∀ (j : Nat) x w', bs[j]? = some x → StateIs w0 E cc ic rc fc cb n i B (ps ++ (((its.map Prod.fst).take j).flatMap (outOf R i))) w' →
      ∃ oe, its[j]? = some oe ∧ ItemX w0 B x oe.1 oe.2 ∧ w'.cell? ⟨sb, j, none⟩ = some (.pointer (some ⟨x, 0, none⟩)) ∧
      Calls Ybaf.prog 7 #[.pointer (some ⟨x, 0, none⟩), .func (.func 8) #[] (caps cc ic rc fc)] w' fun r w'' => r = .returned (.tuple #[]) ∧ StateIs w0 E cc ic rc fc cb n i B (ps ++ (((its.map Prod.fst).take (j + 1)).flatMap (outOf R i))) w'' := by
    intro j x w' hj hI'
    have hjl : j < its.length := by
      rw [← hbl]
      rcases Nat.lt_or_ge j bs.length with h | h
      · exact h
      · rw [List.getElem?_eq_none h] at hj; cases hj
    obtain ⟨oe, hoe⟩ : ∃ oe, its[j]? = some oe := ⟨_, List.getElem?_eq_getElem hjl⟩
    obtain ⟨c, hit⟩ := hi j x oe hj hoe
    refine ⟨oe, hoe, hit, (hI'.2.2.cell (p := ⟨sb, j, none⟩) hs).trans c, ?_⟩
    have hlen := outs_len R i ((its.map Prod.fst).take j)
    have := item_at hx x oe.1 oe.2 _ w' (by simp only [List.length_append]; rw [List.length_take] at hlen; omega) hit (hc oe (List.mem_of_getElem? hoe)) hI'
    have e : (its.map Prod.fst).take (j + 1) = (its.map Prod.fst).take j ++ [oe.1] := by
      rw [List.take_add_one]
      simp [hoe]
    rw [e, List.flatMap_append, ← List.append_assoc]
    simpa using this
  have hst : StateIs w0 E cc ic rc fc cb n i B (ps ++ (((its.map Prod.fst).take 0).flatMap (outOf R i))) w := by simpa using hI
  cases ch with
  | true =>
    have := was_choice 8 bd sb its.length cap bs (caps cc ic rc fc) (fun j w' => StateIs w0 E cc ic rc fc cb n i B (ps ++ (((its.map Prod.fst).take j).flatMap (outOf R i))) w') w enter8 hbl hil
      (fun w' h => ⟨(h.2.2.cell (p := ⟨bd, 0, none⟩) h1).trans he.c0, (h.2.2.cell (p := ⟨bd, 2, none⟩) h1).trans he.c2⟩)
      (fun j x w' hj h => by obtain ⟨_, _, _, h, _⟩ := key j x w' hj h; exact h)
      (skip_at bd 0 _ w (by simp) h1 he.c0 hst)
      (fun j x w' hj h => by obtain ⟨_, _, _, _, h⟩ := key j x w' hj h; exact h)
    rw [List.take_of_length_le (by simp)] at this
    simpa [walked] using this
  | false =>
    have := was_seq 8 bd sb its.length cap bs (fun j => ((its[j]?).map Prod.snd).getD false) (caps cc ic rc fc) (fun j w' => StateIs w0 E cc ic rc fc cb n i B (ps ++ (((its.map Prod.fst).take j).flatMap (outOf R i))) w') w enter8 hbl hil
      (fun w' h => ⟨(h.2.2.cell (p := ⟨bd, 0, none⟩) h1).trans he.c0, (h.2.2.cell (p := ⟨bd, 2, none⟩) h1).trans he.c2⟩)
      (fun j x w' hj h => by obtain ⟨_, _, _, h, _⟩ := key j x w' hj h; exact h)
      (fun j x w' hj h => by
        have hjl : j < its.length := by
          rw [← hbl]
          rcases Nat.lt_or_ge j bs.length with h | h
          · exact h
          · rw [List.getElem?_eq_none h] at hj; cases hj
        obtain ⟨oe, hoe⟩ : ∃ oe, its[j]? = some oe := ⟨_, List.getElem?_eq_getElem hjl⟩
        have hit := (hi j x oe hj hoe).2
        rw [hoe]
        exact (h.2.2.cell (p := ⟨x, 10, none⟩) hit.lt).trans hit.c10)
      (skip_at bd 1 _ w (by simp) h1 he.c0 hst)
      (fun j x w' hj h => by obtain ⟨_, _, _, _, h⟩ := key j x w' hj h; exact h)
    refine this.mono ?_
    rintro r w' ⟨rfl, k, hk, hI', h2, h3⟩
    refine ⟨rfl, ?_⟩
    rw [upto_take its k hk (fun j x hj hjx => by have := h2 j hj; rw [hjx] at this; simpa using this) (fun hlt => by
      obtain ⟨j, rfl, hj⟩ := h3 hlt
      obtain ⟨oe, hoe⟩ : ∃ oe, its[j]? = some oe := ⟨_, List.getElem?_eq_getElem (by omega)⟩
      rw [hoe] at hj
      exact ⟨j, oe, rfl, hoe, by simpa using hj⟩)] at hI'
    simpa [walked] using hI'
end
end Go.Proofs.YbulkblmiFmt
