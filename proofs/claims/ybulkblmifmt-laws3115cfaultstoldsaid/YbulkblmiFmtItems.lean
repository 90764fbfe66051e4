/-
  The walk at a rule's start over an item, over a body.
-/
import Derived.Test.YbulkblmiFmtVisit
namespace Go.Proofs.YbulkblmiFmt
open Go.RowKit Go.Extern.Stop Go.Stop Go.Extern

/-- What an item holds that can be a fault: a lookahead's position and what it calls. -/
abbrev Lk := Option (Int × Option Nat)
/-- The faults of an item in rule i. -/
def outOf (R : Nat → Nat → Bool) (i : Nat) : Lk → List Int
  | some (q, some t) => if R t i = true then [q] else []
  | _ => []
/-- A sequence's items up to the first that is not empty. -/
def upto : List (Lk × Bool) → List Lk
  | [] => []
  | (o, e) :: r => o :: (if e = true then upto r else [])
def walked (ch : Bool) (its : List (Lk × Bool)) : List Lk := if ch = true then its.map Prod.fst else upto its

theorem upto_take : ∀ (its : List (Lk × Bool)) (k : Nat), k ≤ its.length → (∀ j x, j + 1 < k → its[j]? = some x → x.2 = true) → (k < its.length → ∃ j x, k = j + 1 ∧ its[j]? = some x ∧ x.2 = false) → (its.map Prod.fst).take k = upto its
  | [], k, hk, _, _ => by simp [upto]
  | (o, e) :: r, k, hk, h1, h2 => by
    cases k with
    | zero =>
      obtain ⟨j, x, hj, _⟩ := h2 (by simp)
      omega
    | succ k =>
      simp only [List.map_cons, List.take_succ_cons, upto]
      congr 1
      cases k with
      | zero =>
        cases e with
        | false => simp
        | true =>
          cases r with
          | nil => simp [upto]
          | cons a r =>
            obtain ⟨j, x, hj, hx, hx2⟩ := h2 (by simp)
            obtain rfl : j = 0 := by omega
            simp at hx
            subst hx
            simp at hx2
      | succ k =>
        have he : e = true := h1 0 (o, e) (by omega) rfl
        rw [if_pos he]
        refine upto_take r (k + 1) (by simpa using hk) (fun j x hj hx => h1 (j + 1) x (by omega) (by simpa using hx)) (fun hlt => ?_)
        obtain ⟨j, x, hj, hx, hx2⟩ := h2 (by simpa using hlt)
        cases j with
        | zero => omega
        | succ j => exact ⟨j, x, by omega, by simpa using hx, hx2⟩

/-- A lookahead. -/
def Look (w : World) (B b : Nat) (pos : Int) (c : Option Nat) (e : Bool) : Prop := b < B ∧ ∃ op s subs rule, (op = 9 ∨ op = 10) ∧ EX w b op pos subs (.pointer (some ⟨s, 0, none⟩)) rule e ∧ s < B ∧ Leaf w s c
/-- An item: a leaf, a lookahead, an option around one. -/
def ItemX (w : World) (B b : Nat) (o : Lk) (e : Bool) : Prop := match o with
  | none => b < B ∧ ∃ op pos subs sub rule, (op = 2 ∨ op = 5) ∧ EX w b op pos subs sub rule e
  | some (q, c) => Look w B b q c e ∨ (b < B ∧ ∃ s pos subs rule e', EX w b 6 pos subs (.pointer (some ⟨s, 0, none⟩)) rule e ∧ Look w B s q c e')

theorem Leaf.below {w w' : World} {B s : Nat} {c : Option Nat} (h : Leaf w s c) (hb : Below B w w') (hs : s < B) : Leaf w' s c := by
  cases c with
  | some t => obtain ⟨a, b, c, d, h⟩ := h; exact ⟨a, b, c, d, h.below hb hs⟩
  | none => obtain ⟨a, b, c, d, e, h⟩ := h; exact ⟨a, b, c, d, e, h.below hb hs⟩
theorem Look.below {w w' : World} {B b : Nat} {q : Int} {c : Option Nat} {e : Bool} (h : Look w B b q c e) (hb : Below B w w') : Look w' B b q c e := by
  obtain ⟨h1, op, s, subs, rule, ho, he, hs, hl⟩ := h
  exact ⟨h1, op, s, subs, rule, ho, he.below hb h1, hs, hl.below hb hs⟩
theorem ItemX.below {w w' : World} {B b : Nat} {o : Lk} {e : Bool} (h : ItemX w B b o e) (hb : Below B w w') : ItemX w' B b o e := by
  match o, h with
  | none, h =>
    obtain ⟨h1, op, pos, subs, sub, rule, ho, he⟩ := h
    exact ⟨h1, op, pos, subs, sub, rule, ho, he.below hb h1⟩
  | some (q, c), .inl h => exact .inl (Look.below h hb)
  | some (q, c), .inr ⟨h1, s, pos, subs, rule, e', he, hl⟩ => exact .inr ⟨h1, s, pos, subs, rule, e', he.below hb h1, hl.below hb⟩
theorem ItemX.mono {w : World} {B B' b : Nat} {o : Lk} {e : Bool} (h : ItemX w B b o e) (hB : B ≤ B') : ItemX w B' b o e := by
  have hl : ∀ {b q c e}, Look w B b q c e → Look w B' b q c e := by
    rintro b q c e ⟨h1, op, s, subs, rule, ho, he, hs, hl⟩
    exact ⟨by omega, op, s, subs, rule, ho, he, by omega, hl⟩
  match o, h with
  | none, h =>
    obtain ⟨h1, r⟩ := h
    exact ⟨by omega, r⟩
  | some (q, c), .inl h => exact .inl (hl h)
  | some (q, c), .inr ⟨h1, s, pos, subs, rule, e', he, h⟩ => exact .inr ⟨by omega, s, pos, subs, rule, e', he, hl h⟩
theorem ItemX.c10 {w : World} {B b : Nat} {o : Lk} {e : Bool} (h : ItemX w B b o e) : w.cell? ⟨b, 10, none⟩ = some (.bool e) := by
  match o, h with
  | none, ⟨_, _, _, _, _, _, _, he⟩ => exact he.c10
  | some (q, c), .inl ⟨_, _, _, _, _, _, he, _⟩ => exact he.c10
  | some (q, c), .inr ⟨_, _, _, _, _, _, he, _⟩ => exact he.c10
theorem ItemX.lt {w : World} {B b : Nat} {o : Lk} {e : Bool} (h : ItemX w B b o e) : b < B := by
  match o, h with
  | none, h => exact h.1
  | some (q, c), .inl h => exact h.1
  | some (q, c), .inr h => exact h.1

/-- What is fixed for the walk over rule i. -/
structure FixedAt (F : Interp) (w0 : World) (R : Nat → Nat → Bool) (E : Nat → List Nat) (fc cb n i B : Nat) : Prop where
  hF : F.answers w0.tape
  hi : i < n
  hn : n ≤ 256
  hE : ∀ u, u < n → ∀ v ∈ E u, v < n
  hEl : ∀ u, u < n → (E u).length ≤ 1024
  hB : B ≤ fc
  hcb : cb < B
  hR : ∀ t, t < n → (R t i = true ↔ Reach E t i)

/-- The state of the walk. -/
def StateIs (w0 : World) (E : Nat → List Nat) (cc ic rc fc cb n i B : Nat) (ps : List Int) (w : World) : Prop := Ctx w cc ic rc cb n i E ∧ Faults w fc B ps ∧ Below B w0 w

def caps (cc ic rc fc : Nat) : Array Value := #[.pointer (some ⟨cc, 0, none⟩), .pointer (some ⟨ic, 0, none⟩), .pointer (some ⟨rc, 0, none⟩), .pointer (some ⟨fc, 0, none⟩)]

def okC (n : Nat) (c : Option Nat) : Prop := ∀ t, c = some t → t < n
def okL (n : Nat) : Lk → Prop
  | some (_, c) => okC n c
  | none => True

section
variable {F : Interp} {w0 : World} {R : Nat → Nat → Bool} {E : Nat → List Nat} {cc ic rc fc cb n i B : Nat}

theorem skip_at (b : Nat) (op : Int) (ps : List Int) (w : World) (hop : op = 0 ∨ op = 1 ∨ op = 2 ∨ op = 5 ∨ op = 6) (hb : b < B) (h0 : w0.cell? ⟨b, 0, none⟩ = some (.int .u8 op)) (hI : StateIs w0 E cc ic rc fc cb n i B ps w) :
    Calls Ybaf.prog 8 (#[.pointer (some ⟨b, 0, none⟩)] ++ caps cc ic rc fc) w fun r w' => r = .returned (.tuple #[]) ∧ StateIs w0 E cc ic rc fc cb n i B ps w' := by
  refine (p8_skip b cc ic rc fc op w hop ((hI.2.2.cell (p := ⟨b, 0, none⟩) hb).trans h0)).mono ?_
  rintro r w' ⟨rfl, rfl⟩
  exact ⟨rfl, hI⟩

theorem leaf_at (b : Nat) (op : Int) (ps : List Int) (w : World) (hop : op = 2 ∨ op = 5) (hb : b < B) (h0 : w0.cell? ⟨b, 0, none⟩ = some (.int .u8 op)) (hI : StateIs w0 E cc ic rc fc cb n i B ps w) :
    Calls Ybaf.prog 7 #[.pointer (some ⟨b, 0, none⟩), .func (.func 8) #[] (caps cc ic rc fc)] w fun r w' => r = .returned (.tuple #[]) ∧ StateIs w0 E cc ic rc fc cb n i B ps w' :=
  was_leaf 8 b (caps cc ic rc fc) op (StateIs w0 E cc ic rc fc cb n i B ps) w hop enter8 (fun w' h => (h.2.2.cell (p := ⟨b, 0, none⟩) hb).trans h0) (skip_at b op ps w (by rcases hop with h | h <;> simp [h]) hb h0 hI)

theorem Leaf.c0 {w : World} {s : Nat} {c : Option Nat} (h : Leaf w s c) : ∃ op, (op = 2 ∨ op = 5) ∧ w.cell? ⟨s, 0, none⟩ = some (.int .u8 op) := by
  cases c with
  | some t => obtain ⟨_, _, _, _, h⟩ := h; exact ⟨5, .inr rfl, h.c0⟩
  | none => obtain ⟨_, _, _, _, _, h⟩ := h; exact ⟨2, .inl rfl, h.c0⟩

theorem out_eq (hx : FixedAt F w0 R E fc cb n i B) {c : Option Nat} {m : List Bool} (q : Int) (hc : okC n c) (hm : MarksC E c n m) : (if m[i]? = some true then [q] else []) = outOf R i (some (q, c)) := by
  cases c with
  | none =>
    obtain rfl : m = _ := hm
    have : ¬ (List.replicate n false)[i]? = some true := by rw [List.getElem?_replicate]; split <;> simp
    rw [if_neg this]; rfl
  | some t =>
    have h1 := (marks_are hm.1 hm.2.1 hm.2.2.1 hm.2.2.2 i hx.hi).2
    have h2 := hx.hR t (hc t rfl)
    by_cases h : Reach E t i
    · rw [if_pos (h1.2 h)]; simp [outOf, h2.2 h]
    · rw [if_neg (fun e => h (h1.1 e))]
      have : ¬ R t i = true := fun e => h (h2.1 e)
      simp only [outOf, if_neg this]

theorem look_at (hx : FixedAt F w0 R E fc cb n i B) (b : Nat) (q : Int) (c : Option Nat) (e : Bool) (ps : List Int) (w : World) (hps : ps.length ≤ 4096) (hl : Look w0 B b q c e) (hc : okC n c) (hI : StateIs w0 E cc ic rc fc cb n i B ps w) :
    Calls Ybaf.prog 7 #[.pointer (some ⟨b, 0, none⟩), .func (.func 8) #[] (caps cc ic rc fc)] w fun r w' => r = .returned (.tuple #[]) ∧ StateIs w0 E cc ic rc fc cb n i B (ps ++ outOf R i (some (q, c))) w' := by
  obtain ⟨hb, op, s, subs, rule, ho, he, hs, hlf⟩ := hl
  obtain ⟨op2, ho2, h02⟩ := hlf.c0
  have hlw := hlf.below hI.2.2 hs
  have hew := he.below hI.2.2 hb
  refine was_sub 8 b s (caps cc ic rc fc) op (StateIs w0 E cc ic rc fc cb n i B (ps ++ outOf R i (some (q, c)))) _ w (by rcases ho with h | h <;> simp [h]) enter8 (fun w' h => ⟨(h.2.2.cell (p := ⟨b, 0, none⟩) hb).trans he.c0, (h.2.2.cell (p := ⟨b, 3, none⟩) hb).trans he.c3⟩) ?_
    (fun w' h => leaf_at s op2 _ w' ho2 hs h02 h)
  refine (p8_look F b cc ic rc fc cb n i s B c op q ps E w (by rw [hI.2.2.tape]; exact hx.hF) ho hew.c0 hew.c1 hew.c3 hlw hI.1 hx.hi hc hx.hn hx.hE hx.hEl hps hI.2.1 hx.hB hb hx.hcb).mono ?_
  rintro r w' ⟨rfl, m, hm, h1, h2, h3⟩
  rw [out_eq hx q hc hm] at h2
  exact ⟨rfl, h1, h2, hI.2.2.trans h3⟩

theorem item_at (hx : FixedAt F w0 R E fc cb n i B) (b : Nat) (o : Lk) (e : Bool) (ps : List Int) (w : World) (hps : ps.length ≤ 4096) (hl : ItemX w0 B b o e) (hc : okL n o) (hI : StateIs w0 E cc ic rc fc cb n i B ps w) :
    Calls Ybaf.prog 7 #[.pointer (some ⟨b, 0, none⟩), .func (.func 8) #[] (caps cc ic rc fc)] w fun r w' => r = .returned (.tuple #[]) ∧ StateIs w0 E cc ic rc fc cb n i B (ps ++ outOf R i o) w' := by
  match o, hl, hc with
  | none, ⟨h1, op, pos, subs, sub, rule, ho, he⟩, _ =>
    have := leaf_at b op ps w ho h1 he.c0 hI
    simpa [outOf] using this
  | some (q, c), .inl h, hc => exact look_at hx b q c e ps w hps h hc hI
  | some (q, c), .inr ⟨h1, s, pos, subs, rule, e', he, h⟩, hc =>
    exact was_sub 8 b s (caps cc ic rc fc) 6 (StateIs w0 E cc ic rc fc cb n i B ps) _ w (.inl rfl) enter8 (fun w' h => ⟨(h.2.2.cell (p := ⟨b, 0, none⟩) h1).trans he.c0, (h.2.2.cell (p := ⟨b, 3, none⟩) h1).trans he.c3⟩) (skip_at b 6 ps w (by simp) h1 he.c0 hI)
      (fun w' h' => look_at hx s q c e' ps w' hps h hc h')
end
end Go.Proofs.YbulkblmiFmt
