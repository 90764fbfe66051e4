/-
  The library's functions on the road, by their contracts: binary.BigEndian.Uint64, bits.Sub64, bits.Add64, bits.Mul64 at a billion; '==' on two arrays of 16 bytes.
-/
import Derived.Test.YbulkbllgProg
import Derived.WalkKit
import Derived.WalkSpells
import Derived.WalkLawsBesides
import Derived.BigQuiet
import Derived.ChangeKeysEq
import Derived.Laws.Externs
import Derived.Laws.Bits64b
import Derived.Lib.EndianBits
namespace Go.Proofs.Ybulkbllg
open Go.RowKit

theorem hide {p : Prop} (h : p) : Hid p := h
theorem unhide {p : Prop} (h : Hid p) : p := h

/-- A byte. -/
def IsB (x : Int) : Prop := 0 ≤ x ∧ x < 256
/-- A word. -/
def IsW (x : Int) : Prop := 0 ≤ x ∧ x < 18446744073709551616

/-- The number that eight bytes spell, the greatest first. -/
def be8 (l : List Int) : Int := l.foldl (fun r x => r * 256 + x) 0

/-! ### bits.Sub64, bits.Add64: the model's own entries -/
def sub64E : Array Value → Sem Value := fun args => do
  let (x, y, b) ← Extern.MathBitsCarry.three "Sub64" args
  pure (Extern.MathBitsCarry.pair ((x + Extern.MathBitsCarry.m64 - y - b) % Extern.MathBitsCarry.m64) (if x < y + b then 1 else 0))

theorem run_sub64E (x y b : Nat) (hb : b ≤ 1) (w : World) :
    (sub64E #[.int .u64 x, .int .u64 y, .int .u64 b]).run Yba.prog w =
      .ok (.tuple #[.int .u64 (((x + 18446744073709551616 - y - b) % 18446744073709551616 : Nat) : Int), .int .u64 ((if x < y + b then 1 else 0 : Nat) : Int)]) w := by
  have : b = 0 ∨ b = 1 := by omega
  rcases this with rfl | rfl <;> rfl

theorem sub64_nat (x y b : Nat) (hb : b ≤ 1) (w : World) :
    (callFunc 10 #[.int .u64 x, .int .u64 y, .int .u64 b]).run Yba.prog w =
      .ok (.value (.tuple #[.int .u64 (((x + 18446744073709551616 - y - b) % 18446744073709551616 : Nat) : Int), .int .u64 ((if x < y + b then 1 else 0 : Nat) : Int)])) w := by
  rw [run_callFunc_extern Yba.func10 (by kernel_rfl) (by kernel_rfl) (by kernel_rfl) (e := sub64E) (by kernel_rfl), run_sub64E x y b hb]
  rfl

theorem add64_nat (x y c : Nat) (hc : c ≤ 1) (w : World) :
    (callFunc 9 #[.int .u64 x, .int .u64 y, .int .u64 c]).run Yba.prog w =
      .ok (.value (.tuple #[.int .u64 (((x + y + c) % 18446744073709551616 : Nat) : Int), .int .u64 (((x + y + c) / 18446744073709551616 : Nat) : Int)])) w := by
  rw [run_callFunc_extern Yba.func9 (by kernel_rfl) (by kernel_rfl) (by kernel_rfl) (e := add64Entry) (by kernel_rfl), run_add64 x y c (by omega) (by omega) (by omega) (by omega)]
  simp only [Result.andThen]
  congr 5 <;> omega

/-- The borrow, under a name. -/
def bor (x y : Int) : Int := if x < y then 1 else 0
theorem bor_01 (x y : Int) : bor x y = 0 ∨ bor x y = 1 := by unfold bor; split <;> simp

theorem sub64 (x y b : Int) (hx : 0 ≤ x) (hy : IsW y) (hb : b = 0 ∨ b = 1) (w : World) : (callFunc 10 #[.int .u64 x, .int .u64 y, .int .u64 b]).run Yba.prog w =
    .ok (.value (.tuple #[.int .u64 ((x - y - b) % 18446744073709551616), .int .u64 (bor x (y + b))])) w := by
  obtain ⟨hy, hy'⟩ := hy
  obtain ⟨x, rfl⟩ := Int.eq_ofNat_of_zero_le hx
  obtain ⟨y, rfl⟩ := Int.eq_ofNat_of_zero_le hy
  obtain ⟨b, rfl⟩ := Int.eq_ofNat_of_zero_le (show 0 ≤ b by omega)
  have e1 : (((x + 18446744073709551616 - y - b) % 18446744073709551616 : Nat) : Int) = ((x : Int) - y - b) % 18446744073709551616 := by omega
  have e2 : ((if x < y + b then 1 else 0 : Nat) : Int) = bor (x : Int) ((y : Int) + b) := by unfold bor; split <;> split <;> omega
  rw [← e1, ← e2]
  exact sub64_nat x y b (by omega) w
theorem sub64_0 (x y : Int) (hx : 0 ≤ x) (hy : IsW y) (w : World) : (callFunc 10 #[.int .u64 x, .int .u64 y, .int .u64 0]).run Yba.prog w =
    .ok (.value (.tuple #[.int .u64 ((x - y) % 18446744073709551616), .int .u64 (bor x y)])) w := by
  simpa using sub64 x y 0 hx hy (Or.inl rfl) w
theorem add64_0 (x y : Int) (hx : 0 ≤ x) (hy : 0 ≤ y) (w : World) : (callFunc 9 #[.int .u64 x, .int .u64 y, .int .u64 0]).run Yba.prog w =
    .ok (.value (.tuple #[.int .u64 ((x + y) % 18446744073709551616), .int .u64 ((x + y) / 18446744073709551616)])) w := by
  obtain ⟨x, rfl⟩ := Int.eq_ofNat_of_zero_le hx
  obtain ⟨y, rfl⟩ := Int.eq_ofNat_of_zero_le hy
  refine (add64_nat x y 0 (by omega) w).trans ?_
  congr 5 <;> omega

/-! ### bits.Mul64 at a billion -/
theorem mask_u64 (a : Int) (h0 : 0 ≤ a) (h1 : a < 18446744073709551616) : bits .and .u64 a 4294967295 = a % 4294967296 := by
  obtain ⟨a, rfl⟩ := Int.eq_ofNat_of_zero_le h0
  have h := bits_and_u64_nat a 4294967295 (by omega) (by omega)
  have e : a &&& 4294967295 = a % 4294967296 := Nat.and_two_pow_sub_one_eq_mod a 32
  rw [e] at h
  rw [show ((4294967295 : Nat) : Int) = 4294967295 from rfl] at h
  rw [h]
  omega

theorem wrap_range (n : Int) : 0 ≤ IntKind.u64.wrap n ∧ IntKind.u64.wrap n < 18446744073709551616 := by rw [IntKind.wrap_u64]; omega

theorem mul_hi (x : Int) (h0 : 0 ≤ x) (h1 : x < 18446744073709551616) :
    IntKind.u64.wrap (IntKind.u64.wrap (IntKind.u64.wrap (IntKind.u64.wrap (x / 4294967296 * bits BinOp.and IntKind.u64 1000000000 4294967295) + IntKind.u64.wrap (bits BinOp.and IntKind.u64 x 4294967295 * bits BinOp.and IntKind.u64 1000000000 4294967295) / 4294967296) / 4294967296) +
      IntKind.u64.wrap (bits BinOp.and IntKind.u64 (IntKind.u64.wrap (IntKind.u64.wrap (x / 4294967296 * bits BinOp.and IntKind.u64 1000000000 4294967295) + IntKind.u64.wrap (bits BinOp.and IntKind.u64 x 4294967295 * bits BinOp.and IntKind.u64 1000000000 4294967295) / 4294967296)) 4294967295) / 4294967296)
    = x * 1000000000 / 18446744073709551616 := by
  rw [mask_u64 1000000000 (by omega) (by omega), mask_u64 x h0 h1]
  have hb : (1000000000 : Int) % 4294967296 = 1000000000 := by omega
  rw [hb]
  have e1 : IntKind.u64.wrap (x / 4294967296 * 1000000000) = x / 4294967296 * 1000000000 := by rw [IntKind.wrap_u64]; omega
  have e2 : IntKind.u64.wrap (x % 4294967296 * 1000000000) = x % 4294967296 * 1000000000 := by rw [IntKind.wrap_u64]; omega
  rw [e1, e2]
  have e3 : IntKind.u64.wrap (x / 4294967296 * 1000000000 + x % 4294967296 * 1000000000 / 4294967296) = x / 4294967296 * 1000000000 + x % 4294967296 * 1000000000 / 4294967296 := by rw [IntKind.wrap_u64]; omega
  rw [e3]
  obtain ⟨t, ht⟩ : ∃ t, x / 4294967296 * 1000000000 + x % 4294967296 * 1000000000 / 4294967296 = t := ⟨_, rfl⟩
  rw [ht]
  have ht0 : 0 ≤ t ∧ t < 18446744073709551616 := by omega
  have ht1 : t = x * 1000000000 / 4294967296 := by omega
  have e4 : IntKind.u64.wrap (t % 4294967296) / 4294967296 = 0 := by
    have hr : 0 ≤ t % 4294967296 ∧ t % 4294967296 < 4294967296 := by omega
    generalize t % 4294967296 = r at hr
    have e : IntKind.u64.wrap r = r := by rw [IntKind.wrap_u64]; omega
    rw [e]
    omega
  have e5 : IntKind.u64.wrap (t / 4294967296) = t / 4294967296 := by rw [IntKind.wrap_u64]; omega
  rw [mask_u64 t ht0.1 ht0.2, e4, e5, Int.add_zero, e5, ht1]
  omega

theorem ret2_u64 {a b c d : Int} (h1 : a = c) (h2 : b = d) : Ending.returned (.tuple #[.int .u64 a, .int .u64 b]) = .returned (.tuple #[.int .u64 c, .int .u64 d]) := by rw [h1, h2]

set_option maxHeartbeats 1000000 in
theorem mul64_any (x : Int) (hx : IsW x) (w : World) :
    Calls Yba.prog 8 #[.int .u64 x, .int .u64 1000000000] w fun e w' => e = .returned (.tuple #[.int .u64 (x * 1000000000 / 18446744073709551616), .int .u64 (x * 1000000000 % 18446744073709551616)]) ∧ w' = w := by
  obtain ⟨h0, h1⟩ := hx
  go_enter Yba.func8, Yba.ntmps8
  go_wp2
  go_ret2
  exact ⟨ret2_u64 (mul_hi x h0 h1) (by rw [IntKind.wrap_u64]), rfl⟩

/-! ### '==' on two arrays of 16 bytes -/
/-- An array's cells. -/
def bv (l : List Int) : Array Value := (l.map (Value.int .u8)).toArray
theorem bv_size (l : List Int) : (bv l).size = l.length := by simp [bv]

theorem info5' : ∃ i, Yba.prog.info? 5 = some i := by
  have h : (Yba.prog.info? 5).isSome = true := by kernel_rfl
  exact Option.isSome_iff_exists.1 h

theorem eqItems_bytes (d : Nat) (l m : List Int) (w : World) : ∀ is : List Nat, (∀ i ∈ is, i < l.length ∧ i < m.length) →
    (Op.eqItems (d + 1) 5 1 (bv l) (bv m) is).run Yba.prog w = .ok (is.all fun i => l.getD i 0 == m.getD i 0) w := by
  intro is
  induction is with
  | nil => intro _; simp [Op.eqItems]
  | cons i is ih =>
    intro h
    obtain ⟨h1, h2⟩ := h i (by simp)
    have p1 : ∀ n : List Int, i < n.length → (part 5 (bv n) (i * 1)).run Yba.prog w = .ok (.int .u8 (n.getD i 0)) w := fun n hn => by
      have ha : (isAgg 5).run Yba.prog w = .ok false w := by kernel_rfl
      simp [part, ha, bv, hn, List.getD_eq_getElem?_getD]
    rw [Op.eqItems]
    simp only [Sem.run_bind, p1 l h1, p1 m h2, Result.andThen_ok, run_equalIn_int w d 5 .u8 .u8 _ _ Yba.underlying5]
    rw [List.all_cons]
    cases hb : (l.getD i 0 == m.getD i 0) with
    | false => simp
    | true => simpa using ih (fun j hj => h j (by simp [hj]))

theorem all_range_eq (l m : List Int) (n : Nat) (hl : l.length = n) (hm : m.length = n) : ((List.range n).all fun i => l.getD i 0 == m.getD i 0) = decide (l = m) := by
  rw [Bool.eq_iff_iff]
  simp only [List.all_eq_true, List.mem_range, beq_iff_eq, decide_eq_true_eq]
  constructor
  · intro h
    apply List.ext_getElem (by omega)
    intro i h1 h2
    have := h i (by omega)
    simpa [List.getD_eq_getElem?_getD, h1, h2] using this
  · rintro rfl i _
    rfl

theorem eq_arr (t : TypeId) (ht : Yba.prog.underlying t = some (.array 16 5)) (l m : List Int) (hl : l.length = 16) (hm : m.length = 16) (w : World) :
    (Op.equalIn 10000 t (.agg (bv l)) (.agg (bv m))).run Yba.prog w = .ok (decide (l = m)) w := by
  have hc : Yba.prog.cellsOf 5 = 1 := by kernel_rfl
  obtain ⟨i, hi⟩ := info5'
  rw [show (10000 : Nat) = 9999 + 1 from rfl, run_equalIn_array w 9999 _ _ ht hi, hc, eqItems_bytes 9998 l m w _ (fun i hi => by rw [List.mem_range] at hi; omega), all_range_eq l m 16 hl hm]

end Go.Proofs.Ybulkbllg
