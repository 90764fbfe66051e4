/-
  The shelf's contracts at this dump (slices.Clone, Sort, Compact, Equal at []string), in plain words (written by the kit's lay-shelf and lay-plain, for this program; what is not wanted is struck).
-/
import Derived.Shelf.Sort.Plain
import Derived.Shelf.Slices.Equal
import Derived.Shelf.Slices.Clone
import Derived.Shelf.Slices.CompactS
import Derived.Shelf.Slices.In.SortNone
import Derived.Shelf.Slices.Empties2
import Derived.Test.YbulkblgkGreatProg
namespace Go.Proofs
open Go.Shelf
def Ybaz.lays190_ren : Go.Shelf.Ren := ⟨fun | 190 => 8 | 125 => 16 | 258 => 15 | 128 => 29 | 129 => 30 | 302 => 20 | 303 => 21 | 304 => 22 | 305 => 23 | 306 => 24 | 307 => 25 | 308 => 26 | 309 => 27 | 310 => 28 | 333 => 40 | 329 => 41 | 330 => 42 | 334 => 43 | 335 => 44 | 336 => 45 | 344 => 53 | n => n, fun | 31 => 22 | 9 => 9 | 3 => 3 | 46 => 99 | 0 => 0 | 51 => 39 | 53 => 26 | 4 => 4 | 183 => 105 | 182 => 104 | 131 => 110 | 5 => 5 | 218 => 122 | 222 => 126 | 228 => 134 | 229 => 135 | n => n, fun | n => n⟩
theorem Ybaz.lays190 : Go.Proofs.Lays.n190 Ybaz.prog Ybaz.lays190_ren := {
  mixed := by kernel_rfl
  f125 := Ybaz.func16.trans (congrArg some (by kernel_rfl))
  f128 := Ybaz.func29.trans (congrArg some (by kernel_rfl))
  f129 := Ybaz.func30.trans (congrArg some (by kernel_rfl))
  f190 := Ybaz.func8.trans (congrArg some (by kernel_rfl))
  f258 := Ybaz.func15.trans (congrArg some (by kernel_rfl))
  f302 := Ybaz.func20.trans (congrArg some (by kernel_rfl))
  f303 := Ybaz.func21.trans (congrArg some (by kernel_rfl))
  f304 := Ybaz.func22.trans (congrArg some (by kernel_rfl))
  f305 := Ybaz.func23.trans (congrArg some (by kernel_rfl))
  f306 := Ybaz.func24.trans (congrArg some (by kernel_rfl))
  f307 := Ybaz.func25.trans (congrArg some (by kernel_rfl))
  f308 := Ybaz.func26.trans (congrArg some (by kernel_rfl))
  f309 := Ybaz.func27.trans (congrArg some (by kernel_rfl))
  f310 := Ybaz.func28.trans (congrArg some (by kernel_rfl))
  f329 := Ybaz.func41.trans (congrArg some (by kernel_rfl))
  f330 := Ybaz.func42.trans (congrArg some (by kernel_rfl))
  f333 := Ybaz.func40.trans (congrArg some (by kernel_rfl))
  f334 := Ybaz.func43.trans (congrArg some (by kernel_rfl))
  f335 := Ybaz.func44.trans (congrArg some (by kernel_rfl))
  f336 := Ybaz.func45.trans (congrArg some (by kernel_rfl))
  f344 := Ybaz.func53.trans (congrArg some (by kernel_rfl))
  t0 := Ybaz.underlying0
  a0 := Ybaz.isAgg0
  z0 := Ybaz.sizeOf0
  v0 := Ybaz.zeroValue0
  t3 := Ybaz.underlying3
  a3 := Ybaz.isAgg3
  z3 := Ybaz.sizeOf3
  v3 := Ybaz.zeroValue3
  t4 := Ybaz.underlying4
  a4 := Ybaz.isAgg4
  z4 := Ybaz.sizeOf4
  v4 := Ybaz.zeroValue4
  t5 := Ybaz.underlying5
  a5 := Ybaz.isAgg5
  z5 := Ybaz.sizeOf5
  v5 := Ybaz.zeroValue5
  t9 := Ybaz.underlying9
  a9 := Ybaz.isAgg9
  z9 := Ybaz.sizeOf9
  v9 := Ybaz.zeroValue9
  t31 := Ybaz.underlying22
  a31 := Ybaz.isAgg22
  z31 := Ybaz.sizeOf22
  v31 := Ybaz.zeroValue22
  t46 := Ybaz.underlying99
  a46 := Ybaz.isAgg99
  z46 := Ybaz.sizeOf99
  v46 := Ybaz.zeroValue99
  t51 := Ybaz.underlying39
  a51 := Ybaz.isAgg39
  z51 := Ybaz.sizeOf39
  v51 := Ybaz.zeroValue39
  t53 := Ybaz.underlying26
  a53 := Ybaz.isAgg26
  z53 := Ybaz.sizeOf26
  v53 := Ybaz.zeroValue26
  t131 := Ybaz.underlying110
  a131 := Ybaz.isAgg110
  z131 := Ybaz.sizeOf110
  v131 := Ybaz.zeroValue110
  t182 := Ybaz.underlying104
  a182 := Ybaz.isAgg104
  z182 := Ybaz.sizeOf104
  v182 := Ybaz.zeroValue104
  t183 := Ybaz.underlying105
  a183 := Ybaz.isAgg105
  z183 := Ybaz.sizeOf105
  v183 := Ybaz.zeroValue105
  t218 := Ybaz.underlying122
  a218 := Ybaz.isAgg122
  z218 := Ybaz.sizeOf122
  v218 := Ybaz.zeroValue122
  t222 := Ybaz.underlying126
  a222 := Ybaz.isAgg126
  z222 := Ybaz.sizeOf126
  v222 := Ybaz.zeroValue126
  t228 := Ybaz.underlying134
  a228 := Ybaz.isAgg134
  z228 := Ybaz.sizeOf134
  v228 := Ybaz.zeroValue134
  t229 := Ybaz.underlying135
  a229 := Ybaz.isAgg135
  z229 := Ybaz.sizeOf135
  v229 := Ybaz.zeroValue135 }
open Go.Sort Go.RowKit in
theorem Ybaz.slices_Sort_string (blk off cap : Nat) (ss : List (List UInt8)) (w : World) (hH : Holds encStr w blk off ss.toArray) (hblk : blk < w.heap.size) (hsz : ss.length < 4611686018427387904) :
    Calls Ybaz.prog 8 #[.slice (some ⟨blk, off, none⟩) ss.length cap] w fun e w' =>
      e = .returned (.tuple #[]) ∧ ∃ n os, w' = grow (putRow encStr (Sort.ahead w n) blk off (ss.mergeSort fun x y => decide (x ≤ y)).toArray) os := Any.slices_Sort_string Ybaz.lays190 blk off cap ss w hH hblk hsz
def Ybaz.lays193_ren : Go.Shelf.Ren := ⟨fun | 193 => 10 | n => n, fun | 31 => 22 | 9 => 9 | 4 => 4 | 3 => 3 | 0 => 0 | n => n, fun | n => n⟩
theorem Ybaz.lays193 : Go.Proofs.Lays.n193 Ybaz.prog Ybaz.lays193_ren := {
  mixed := by kernel_rfl
  f193 := Ybaz.func10.trans (congrArg some (by kernel_rfl))
  t0 := Ybaz.underlying0
  a0 := Ybaz.isAgg0
  z0 := Ybaz.sizeOf0
  v0 := Ybaz.zeroValue0
  t3 := Ybaz.underlying3
  a3 := Ybaz.isAgg3
  z3 := Ybaz.sizeOf3
  v3 := Ybaz.zeroValue3
  t4 := Ybaz.underlying4
  a4 := Ybaz.isAgg4
  z4 := Ybaz.sizeOf4
  v4 := Ybaz.zeroValue4
  t9 := Ybaz.underlying9
  a9 := Ybaz.isAgg9
  z9 := Ybaz.sizeOf9
  v9 := Ybaz.zeroValue9
  t31 := Ybaz.underlying22
  a31 := Ybaz.isAgg22
  z31 := Ybaz.sizeOf22
  v31 := Ybaz.zeroValue22 }
open Go.RowKit Go.Lib in
theorem Ybaz.slices_Equal_string (b1 o1 n c b2 o2 m d : Nat) (xs ys : List ByteArray) (w : World) (hx : n ≤ xs.length) (hy : m ≤ ys.length) (hbig : n ≤ 9223372036854775807) (hbig2 : m ≤ 9223372036854775807) (hc1 : ∀ j, j < xs.length → w.cell? ⟨b1, o1 + j, none⟩ = some (.string (xs.getD j ByteArray.empty))) (hc2 : ∀ j, j < ys.length → w.cell? ⟨b2, o2 + j, none⟩ = some (.string (ys.getD j ByteArray.empty))) :
    Calls Ybaz.prog 10 #[.slice (some ⟨b1, o1, none⟩) n c, .slice (some ⟨b2, o2, none⟩) m d] w fun e w' => e = .returned (.bool (decide (xs.take n = ys.take m))) ∧ ∃ q, w' = w.drewN q := Any.slices_Equal_string Ybaz.lays193 b1 o1 n c b2 o2 m d xs ys w hx hy hbig hbig2 hc1 hc2
open Go.RowKit Go.Lib in
theorem Ybaz.slices_Equal_string_empty (a1 a2 : Option Addr) (c m d : Nat) (w : World) (hbig2 : m ≤ 9223372036854775807) :
    Calls Ybaz.prog 10 #[.slice a1 0 c, .slice a2 m d] w fun e w' => e = .returned (.bool (decide (m = 0))) ∧ w' = w := Any.slices_Equal_string_empty Ybaz.lays193 a1 a2 c m d w hbig2
def Ybaz.laysNm216_ren : Go.Shelf.Ren := ⟨fun | 16 => 7 | n => n, fun | 24 => 22 | 9 => 9 | 4 => 4 | n => n, fun | n => n⟩
theorem Ybaz.laysNm216 : Go.Proofs.Lays2.n16 Ybaz.prog Ybaz.laysNm216_ren := {
  mixed := by kernel_rfl
  f16 := Ybaz.func7.trans (congrArg some (by kernel_rfl))
  t4 := Ybaz.underlying4
  a4 := Ybaz.isAgg4
  z4 := Ybaz.sizeOf4
  v4 := Ybaz.zeroValue4
  t9 := Ybaz.underlying9
  a9 := Ybaz.isAgg9
  z9 := Ybaz.sizeOf9
  v9 := Ybaz.zeroValue9
  t24 := Ybaz.underlying22
  a24 := Ybaz.isAgg22
  z24 := Ybaz.sizeOf22
  v24 := Ybaz.zeroValue22
  i9 := by kernel_rfl }
open Go.RowKit Go.Lib in
theorem Ybaz.slices_Clone_string (b off n c : Nat) (zs : List ByteArray) (w : World) (hz : n ≤ zs.length) (hbig : n * 16 ≤ 140737488355328) (hc : ∀ j, j < zs.length → w.cell? ⟨b, off + j, none⟩ = some (.string (zs.getD j ByteArray.empty))) :
    Calls Ybaz.prog 7 #[.slice (some ⟨b, off, none⟩) n c] w fun e w' => ∃ v', e = .returned v' ∧ w'.ownsRow w.heap.size 9 1 v' n ((zs.take n).map (Value.string)) ∧ v' ≠ .slice none 0 0 ∧ Below w.heap.size w w' := Any.slices_Clone_string Ybaz.laysNm216 b off n c zs w hz hbig hc
open Go.RowKit Go.Lib in
theorem Ybaz.slices_Clone_string_nil (n c : Nat) (w : World) :
    Calls Ybaz.prog 7 #[.slice none n c] w fun e w' => e = .returned (.slice none 0 0) ∧ w' = w := Any.slices_Clone_string_nil Ybaz.laysNm216 n c w
open Go.RowKit Go.Lib in
theorem Ybaz.slices_Clone_string_zero (a : Addr) (c : Nat) (w : World) :
    Calls Ybaz.prog 7 #[.slice (some a) 0 c] w fun e w' => ∃ v', e = .returned v' ∧ w'.ownsRow w.heap.size 9 1 v' 0 [] ∧ v' ≠ .slice none 0 0 ∧ Below w.heap.size w w' := Any.slices_Clone_string_zero Ybaz.laysNm216 a c w
def Ybaz.lays194_ren : Go.Shelf.Ren := ⟨fun | 194 => 9 | n => n, fun | 31 => 22 | 9 => 9 | 3 => 3 | 4 => 4 | 0 => 0 | n => n, fun | n => n⟩
theorem Ybaz.lays194 : Go.Proofs.Lays.n194 Ybaz.prog Ybaz.lays194_ren := {
  mixed := by kernel_rfl
  f194 := Ybaz.func9.trans (congrArg some (by kernel_rfl))
  t0 := Ybaz.underlying0
  a0 := Ybaz.isAgg0
  z0 := Ybaz.sizeOf0
  v0 := Ybaz.zeroValue0
  t3 := Ybaz.underlying3
  a3 := Ybaz.isAgg3
  z3 := Ybaz.sizeOf3
  v3 := Ybaz.zeroValue3
  t4 := Ybaz.underlying4
  a4 := Ybaz.isAgg4
  z4 := Ybaz.sizeOf4
  v4 := Ybaz.zeroValue4
  t9 := Ybaz.underlying9
  a9 := Ybaz.isAgg9
  z9 := Ybaz.sizeOf9
  v9 := Ybaz.zeroValue9
  t31 := Ybaz.underlying22
  a31 := Ybaz.isAgg22
  z31 := Ybaz.sizeOf22
  v31 := Ybaz.zeroValue22 }
open Go.RowKit Go.Lib Go.Sort in
theorem Ybaz.slices_Compact_string (blk off cap : Nat) (zs : List (List UInt8)) (w : World) (hH : Holds encStr w blk off zs.toArray) (hsz : zs.length ≤ 9223372036854775807) (hcap : zs.length ≤ cap) :
    Calls Ybaz.prog 9 #[.slice (some ⟨blk, off, none⟩) zs.length cap] w fun e w' => e = .returned (.slice (some ⟨blk, off, none⟩) (Lib.compact zs).length cap) ∧ ∃ q, w' = putRow encStr (Sort.ahead w q) blk off (Lib.compact zs ++ List.replicate (zs.length - (Lib.compact zs).length) []).toArray := Any.slices_Compact_string Ybaz.lays194 blk off cap zs w hH hsz hcap
open Go.RowKit Go.Lib Go.Sort in
theorem Ybaz.slices_Compact_string_empty (a : Option Addr) (cap : Nat) (w : World) :
    Calls Ybaz.prog 9 #[.slice a 0 cap] w fun e w' => e = .returned (.slice a 0 cap) ∧ w' = w := Any.slices_Compact_string_empty Ybaz.lays194 a cap w
open Go.RowKit Go.Sort in
theorem Ybaz.slices_Sort_string_none (p : Option Addr) (cap : Nat) (w : World) :
    Calls Ybaz.prog 8 #[.slice p 0 cap] w fun e w' => e = .returned (.tuple #[]) ∧ w' = w := Any.slices_Sort_string_none Ybaz.lays190 p cap w
open Go.RowKit Go.Lib in
theorem Ybaz.slices_Equal_string_lens (a1 a2 : Option Addr) (n c m d : Nat) (w : World) (hnm : n ≠ m) :
    Calls Ybaz.prog 10 #[.slice a1 n c, .slice a2 m d] w fun e w' => e = .returned (.bool false) ∧ w' = w := Any.slices_Equal_string_lens Ybaz.lays193 a1 a2 n c m d w hnm
end Go.Proofs
