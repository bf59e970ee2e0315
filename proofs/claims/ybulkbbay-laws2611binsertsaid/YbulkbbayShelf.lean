/-
  Contracts of the shelf at this dump, as the kit's own tool lays them in plain words.
-/
import Derived.Shelf.Small.Bits
import Derived.Shelf.Strconv.Itoa0
import Derived.Shelf.Sort.Plain
import Derived.Shelf.Slices.Equal
import Derived.Ground.Names2Prog
import Derived.Shelf.Slices.ReverseS
import Derived.Shelf.Slices.Clone
import Derived.Shelf.Slices.CompactS
import Derived.Shelf.Slices.Cells
import Derived.Shelf.Slices.In.SortNone
import Derived.Shelf.Slices.Empties2
import Derived.Ground.SlgnProg
import Derived.Shelf.SlicesE.Clone
import Derived.Shelf.Spec.SearchS
import Derived.Shelf.Spec.SlicesInsert
import Derived.Test.YbulkbbayProg
namespace Go.Proofs
open Go.Shelf
def Yba.lays128_ren : Go.Shelf.Ren := ⟨fun | 128 => 26 | n => n, fun | 51 => 52 | 3 => 3 | 4 => 4 | 46 => 37 | 5 => 5 | 9 => 9 | n => n, fun | n => n⟩
theorem Yba.lays128 : Go.Proofs.Lays.n128 Yba.prog Yba.lays128_ren := {
  mixed := by kernel_rfl
  f128 := Yba.func26.trans (congrArg some (by kernel_rfl))
  t3 := Yba.underlying3
  a3 := Yba.isAgg3
  z3 := Yba.sizeOf3
  v3 := Yba.zeroValue3
  t4 := Yba.underlying4
  a4 := Yba.isAgg4
  z4 := Yba.sizeOf4
  v4 := Yba.zeroValue4
  t5 := Yba.underlying5
  a5 := Yba.isAgg5
  z5 := Yba.sizeOf5
  v5 := Yba.zeroValue5
  t9 := Yba.underlying9
  a9 := Yba.isAgg9
  z9 := Yba.sizeOf9
  v9 := Yba.zeroValue9
  t46 := Yba.underlying37
  a46 := Yba.isAgg37
  z46 := Yba.sizeOf37
  v46 := Yba.zeroValue37
  t51 := Yba.underlying52
  a51 := Yba.isAgg52
  z51 := Yba.sizeOf52
  v51 := Yba.zeroValue52 }
theorem Yba.bits_Len32 (x : Int) (w : World) (h0 : 0 ≤ x) (h1 : x ≤ 4294967295) :
    Calls Yba.prog 26 #[.int .u32 x] w fun e w' => e = .returned (.int .i64 (Lib.bitLen x.toNat)) ∧ w' = w := Any.bits_Len32 Yba.lays128 x w h0 h1
def Yba.lays125_ren : Go.Shelf.Ren := ⟨fun | 125 => 12 | 128 => 26 | 129 => 27 | n => n, fun | 46 => 37 | 3 => 3 | 51 => 52 | 53 => 24 | 4 => 4 | 5 => 5 | 9 => 9 | n => n, fun | n => n⟩
theorem Yba.lays125 : Go.Proofs.Lays.n125 Yba.prog Yba.lays125_ren := {
  mixed := by kernel_rfl
  f125 := Yba.func12.trans (congrArg some (by kernel_rfl))
  f128 := Yba.func26.trans (congrArg some (by kernel_rfl))
  f129 := Yba.func27.trans (congrArg some (by kernel_rfl))
  t3 := Yba.underlying3
  a3 := Yba.isAgg3
  z3 := Yba.sizeOf3
  v3 := Yba.zeroValue3
  t4 := Yba.underlying4
  a4 := Yba.isAgg4
  z4 := Yba.sizeOf4
  v4 := Yba.zeroValue4
  t5 := Yba.underlying5
  a5 := Yba.isAgg5
  z5 := Yba.sizeOf5
  v5 := Yba.zeroValue5
  t9 := Yba.underlying9
  a9 := Yba.isAgg9
  z9 := Yba.sizeOf9
  v9 := Yba.zeroValue9
  t46 := Yba.underlying37
  a46 := Yba.isAgg37
  z46 := Yba.sizeOf37
  v46 := Yba.zeroValue37
  t51 := Yba.underlying52
  a51 := Yba.isAgg52
  z51 := Yba.sizeOf52
  v51 := Yba.zeroValue52
  t53 := Yba.underlying24
  a53 := Yba.isAgg24
  z53 := Yba.sizeOf24
  v53 := Yba.zeroValue24 }
theorem Yba.bits_Len (x : Int) (w : World) (h0 : 0 ≤ x) (h1 : x ≤ 18446744073709551615) :
    Calls Yba.prog 12 #[.int .u64 x] w fun e w' => e = .returned (.int .i64 (Lib.bitLen x.toNat)) ∧ w' = w := Any.bits_Len Yba.lays125 x w h0 h1
def Yba.lays129_ren : Go.Shelf.Ren := ⟨fun | 129 => 27 | n => n, fun | 53 => 24 | 3 => 3 | 4 => 4 | 46 => 37 | 5 => 5 | 9 => 9 | n => n, fun | n => n⟩
theorem Yba.lays129 : Go.Proofs.Lays.n129 Yba.prog Yba.lays129_ren := {
  mixed := by kernel_rfl
  f129 := Yba.func27.trans (congrArg some (by kernel_rfl))
  t3 := Yba.underlying3
  a3 := Yba.isAgg3
  z3 := Yba.sizeOf3
  v3 := Yba.zeroValue3
  t4 := Yba.underlying4
  a4 := Yba.isAgg4
  z4 := Yba.sizeOf4
  v4 := Yba.zeroValue4
  t5 := Yba.underlying5
  a5 := Yba.isAgg5
  z5 := Yba.sizeOf5
  v5 := Yba.zeroValue5
  t9 := Yba.underlying9
  a9 := Yba.isAgg9
  z9 := Yba.sizeOf9
  v9 := Yba.zeroValue9
  t46 := Yba.underlying37
  a46 := Yba.isAgg37
  z46 := Yba.sizeOf37
  v46 := Yba.zeroValue37
  t53 := Yba.underlying24
  a53 := Yba.isAgg24
  z53 := Yba.sizeOf24
  v53 := Yba.zeroValue24 }
theorem Yba.bits_Len64 (x : Int) (w : World) (h0 : 0 ≤ x) (h1 : x ≤ 18446744073709551615) :
    Calls Yba.prog 27 #[.int .u64 x] w fun e w' => e = .returned (.int .i64 (Lib.bitLen x.toNat)) ∧ w' = w := Any.bits_Len64 Yba.lays129 x w h0 h1
def Yba.lays190_ren : Go.Shelf.Ren := ⟨fun | 190 => 4 | 125 => 12 | 258 => 11 | 128 => 26 | 129 => 27 | 302 => 17 | 303 => 18 | 304 => 19 | 305 => 20 | 306 => 21 | 307 => 22 | 308 => 23 | 309 => 24 | 310 => 25 | 333 => 33 | 329 => 34 | 330 => 35 | 334 => 36 | 335 => 37 | 336 => 38 | 344 => 41 | n => n, fun | 31 => 22 | 9 => 9 | 3 => 3 | 46 => 37 | 0 => 0 | 51 => 52 | 53 => 24 | 4 => 4 | 183 => 45 | 182 => 44 | 131 => 30 | 5 => 5 | 218 => 58 | 222 => 62 | 228 => 64 | 229 => 65 | n => n, fun | n => n⟩
theorem Yba.lays190 : Go.Proofs.Lays.n190 Yba.prog Yba.lays190_ren := {
  mixed := by kernel_rfl
  f125 := Yba.func12.trans (congrArg some (by kernel_rfl))
  f128 := Yba.func26.trans (congrArg some (by kernel_rfl))
  f129 := Yba.func27.trans (congrArg some (by kernel_rfl))
  f190 := Yba.func4.trans (congrArg some (by kernel_rfl))
  f258 := Yba.func11.trans (congrArg some (by kernel_rfl))
  f302 := Yba.func17.trans (congrArg some (by kernel_rfl))
  f303 := Yba.func18.trans (congrArg some (by kernel_rfl))
  f304 := Yba.func19.trans (congrArg some (by kernel_rfl))
  f305 := Yba.func20.trans (congrArg some (by kernel_rfl))
  f306 := Yba.func21.trans (congrArg some (by kernel_rfl))
  f307 := Yba.func22.trans (congrArg some (by kernel_rfl))
  f308 := Yba.func23.trans (congrArg some (by kernel_rfl))
  f309 := Yba.func24.trans (congrArg some (by kernel_rfl))
  f310 := Yba.func25.trans (congrArg some (by kernel_rfl))
  f329 := Yba.func34.trans (congrArg some (by kernel_rfl))
  f330 := Yba.func35.trans (congrArg some (by kernel_rfl))
  f333 := Yba.func33.trans (congrArg some (by kernel_rfl))
  f334 := Yba.func36.trans (congrArg some (by kernel_rfl))
  f335 := Yba.func37.trans (congrArg some (by kernel_rfl))
  f336 := Yba.func38.trans (congrArg some (by kernel_rfl))
  f344 := Yba.func41.trans (congrArg some (by kernel_rfl))
  t0 := Yba.underlying0
  a0 := Yba.isAgg0
  z0 := Yba.sizeOf0
  v0 := Yba.zeroValue0
  t3 := Yba.underlying3
  a3 := Yba.isAgg3
  z3 := Yba.sizeOf3
  v3 := Yba.zeroValue3
  t4 := Yba.underlying4
  a4 := Yba.isAgg4
  z4 := Yba.sizeOf4
  v4 := Yba.zeroValue4
  t5 := Yba.underlying5
  a5 := Yba.isAgg5
  z5 := Yba.sizeOf5
  v5 := Yba.zeroValue5
  t9 := Yba.underlying9
  a9 := Yba.isAgg9
  z9 := Yba.sizeOf9
  v9 := Yba.zeroValue9
  t31 := Yba.underlying22
  a31 := Yba.isAgg22
  z31 := Yba.sizeOf22
  v31 := Yba.zeroValue22
  t46 := Yba.underlying37
  a46 := Yba.isAgg37
  z46 := Yba.sizeOf37
  v46 := Yba.zeroValue37
  t51 := Yba.underlying52
  a51 := Yba.isAgg52
  z51 := Yba.sizeOf52
  v51 := Yba.zeroValue52
  t53 := Yba.underlying24
  a53 := Yba.isAgg24
  z53 := Yba.sizeOf24
  v53 := Yba.zeroValue24
  t131 := Yba.underlying30
  a131 := Yba.isAgg30
  z131 := Yba.sizeOf30
  v131 := Yba.zeroValue30
  t182 := Yba.underlying44
  a182 := Yba.isAgg44
  z182 := Yba.sizeOf44
  v182 := Yba.zeroValue44
  t183 := Yba.underlying45
  a183 := Yba.isAgg45
  z183 := Yba.sizeOf45
  v183 := Yba.zeroValue45
  t218 := Yba.underlying58
  a218 := Yba.isAgg58
  z218 := Yba.sizeOf58
  v218 := Yba.zeroValue58
  t222 := Yba.underlying62
  a222 := Yba.isAgg62
  z222 := Yba.sizeOf62
  v222 := Yba.zeroValue62
  t228 := Yba.underlying64
  a228 := Yba.isAgg64
  z228 := Yba.sizeOf64
  v228 := Yba.zeroValue64
  t229 := Yba.underlying65
  a229 := Yba.isAgg65
  z229 := Yba.sizeOf65
  v229 := Yba.zeroValue65 }
open Go.Sort Go.RowKit in
theorem Yba.slices_Sort_string (blk off cap : Nat) (ss : List (List UInt8)) (w : World) (hH : Holds encStr w blk off ss.toArray) (hblk : blk < w.heap.size) (hsz : ss.length < 4611686018427387904) :
    Calls Yba.prog 4 #[.slice (some ⟨blk, off, none⟩) ss.length cap] w fun e w' =>
      e = .returned (.tuple #[]) ∧ ∃ n os, w' = grow (putRow encStr (Sort.ahead w n) blk off (ss.mergeSort fun x y => decide (x ≤ y)).toArray) os := Any.slices_Sort_string Yba.lays190 blk off cap ss w hH hblk hsz
def Yba.lays193_ren : Go.Shelf.Ren := ⟨fun | 193 => 10 | n => n, fun | 31 => 22 | 9 => 9 | 4 => 4 | 3 => 3 | 0 => 0 | n => n, fun | n => n⟩
theorem Yba.lays193 : Go.Proofs.Lays.n193 Yba.prog Yba.lays193_ren := {
  mixed := by kernel_rfl
  f193 := Yba.func10.trans (congrArg some (by kernel_rfl))
  t0 := Yba.underlying0
  a0 := Yba.isAgg0
  z0 := Yba.sizeOf0
  v0 := Yba.zeroValue0
  t3 := Yba.underlying3
  a3 := Yba.isAgg3
  z3 := Yba.sizeOf3
  v3 := Yba.zeroValue3
  t4 := Yba.underlying4
  a4 := Yba.isAgg4
  z4 := Yba.sizeOf4
  v4 := Yba.zeroValue4
  t9 := Yba.underlying9
  a9 := Yba.isAgg9
  z9 := Yba.sizeOf9
  v9 := Yba.zeroValue9
  t31 := Yba.underlying22
  a31 := Yba.isAgg22
  z31 := Yba.sizeOf22
  v31 := Yba.zeroValue22 }
open Go.RowKit Go.Lib in
theorem Yba.slices_Equal_string (b1 o1 n c b2 o2 m d : Nat) (xs ys : List ByteArray) (w : World) (hx : n ≤ xs.length) (hy : m ≤ ys.length) (hbig : n ≤ 9223372036854775807) (hbig2 : m ≤ 9223372036854775807) (hc1 : ∀ j, j < xs.length → w.cell? ⟨b1, o1 + j, none⟩ = some (.string (xs.getD j ByteArray.empty))) (hc2 : ∀ j, j < ys.length → w.cell? ⟨b2, o2 + j, none⟩ = some (.string (ys.getD j ByteArray.empty))) :
    Calls Yba.prog 10 #[.slice (some ⟨b1, o1, none⟩) n c, .slice (some ⟨b2, o2, none⟩) m d] w fun e w' => e = .returned (.bool (decide (xs.take n = ys.take m))) ∧ ∃ q, w' = w.drewN q := Any.slices_Equal_string Yba.lays193 b1 o1 n c b2 o2 m d xs ys w hx hy hbig hbig2 hc1 hc2
open Go.RowKit Go.Lib in
theorem Yba.slices_Equal_string_empty (a1 a2 : Option Addr) (c m d : Nat) (w : World) (hbig2 : m ≤ 9223372036854775807) :
    Calls Yba.prog 10 #[.slice a1 0 c, .slice a2 m d] w fun e w' => e = .returned (.bool (decide (m = 0))) ∧ w' = w := Any.slices_Equal_string_empty Yba.lays193 a1 a2 c m d w hbig2
def Yba.laysNm217_ren : Go.Shelf.Ren := ⟨fun | 17 => 42 | n => n, fun | 24 => 22 | 9 => 9 | 3 => 3 | 4 => 4 | 0 => 0 | n => n, fun | n => n⟩
theorem Yba.laysNm217 : Go.Proofs.Lays2.n17 Yba.prog Yba.laysNm217_ren := {
  mixed := by kernel_rfl
  f17 := Yba.func42.trans (congrArg some (by kernel_rfl))
  t0 := Yba.underlying0
  a0 := Yba.isAgg0
  z0 := Yba.sizeOf0
  v0 := Yba.zeroValue0
  t3 := Yba.underlying3
  a3 := Yba.isAgg3
  z3 := Yba.sizeOf3
  v3 := Yba.zeroValue3
  t4 := Yba.underlying4
  a4 := Yba.isAgg4
  z4 := Yba.sizeOf4
  v4 := Yba.zeroValue4
  t9 := Yba.underlying9
  a9 := Yba.isAgg9
  z9 := Yba.sizeOf9
  v9 := Yba.zeroValue9
  t24 := Yba.underlying22
  a24 := Yba.isAgg22
  z24 := Yba.sizeOf22
  v24 := Yba.zeroValue22 }
open Go.RowKit Go.Lib Go.Sort in
theorem Yba.slices_Reverse_string_arr (blk off cap : Nat) (d : Array (List UInt8)) (w : World) (hH : Holds encStr w blk off d) (hsz : d.size ≤ 9223372036854775807) :
    Calls Yba.prog 42 #[.slice (some ⟨blk, off, none⟩) d.size cap] w fun e w' => e = .returned (.tuple #[]) ∧ ∃ n, w' = putRow encStr (Sort.ahead w n) blk off d.reverse := Any.slices_Reverse_string_arr Yba.laysNm217 blk off cap d w hH hsz
open Go.RowKit Go.Lib Go.Sort in
theorem Yba.slices_Reverse_string (blk off cap : Nat) (zs : List (List UInt8)) (w : World) (hH : Holds encStr w blk off zs.toArray) (hsz : zs.length ≤ 9223372036854775807) :
    Calls Yba.prog 42 #[.slice (some ⟨blk, off, none⟩) zs.length cap] w fun e w' => e = .returned (.tuple #[]) ∧ ∃ n, w' = putRow encStr (Sort.ahead w n) blk off zs.reverse.toArray := Any.slices_Reverse_string Yba.laysNm217 blk off cap zs w hH hsz
open Go.RowKit Go.Lib Go.Sort in
theorem Yba.slices_Reverse_string_empty (a : Option Addr) (cap : Nat) (w : World) :
    Calls Yba.prog 42 #[.slice a 0 cap] w fun e w' => e = .returned (.tuple #[]) ∧ w' = w := Any.slices_Reverse_string_empty Yba.laysNm217 a cap w
def Yba.laysNm216_ren : Go.Shelf.Ren := ⟨fun | 16 => 6 | n => n, fun | 24 => 22 | 9 => 9 | 4 => 4 | n => n, fun | n => n⟩
theorem Yba.laysNm216 : Go.Proofs.Lays2.n16 Yba.prog Yba.laysNm216_ren := {
  mixed := by kernel_rfl
  f16 := Yba.func6.trans (congrArg some (by kernel_rfl))
  t4 := Yba.underlying4
  a4 := Yba.isAgg4
  z4 := Yba.sizeOf4
  v4 := Yba.zeroValue4
  t9 := Yba.underlying9
  a9 := Yba.isAgg9
  z9 := Yba.sizeOf9
  v9 := Yba.zeroValue9
  t24 := Yba.underlying22
  a24 := Yba.isAgg22
  z24 := Yba.sizeOf22
  v24 := Yba.zeroValue22
  i9 := by kernel_rfl }
open Go.RowKit Go.Lib in
theorem Yba.slices_Clone_string (b off n c : Nat) (zs : List ByteArray) (w : World) (hz : n ≤ zs.length) (hbig : n * 16 ≤ 140737488355328) (hc : ∀ j, j < zs.length → w.cell? ⟨b, off + j, none⟩ = some (.string (zs.getD j ByteArray.empty))) :
    Calls Yba.prog 6 #[.slice (some ⟨b, off, none⟩) n c] w fun e w' => ∃ v', e = .returned v' ∧ w'.ownsRow w.heap.size 9 1 v' n ((zs.take n).map (Value.string)) ∧ v' ≠ .slice none 0 0 ∧ Below w.heap.size w w' := Any.slices_Clone_string Yba.laysNm216 b off n c zs w hz hbig hc
open Go.RowKit Go.Lib in
theorem Yba.slices_Clone_string_nil (n c : Nat) (w : World) :
    Calls Yba.prog 6 #[.slice none n c] w fun e w' => e = .returned (.slice none 0 0) ∧ w' = w := Any.slices_Clone_string_nil Yba.laysNm216 n c w
open Go.RowKit Go.Lib in
theorem Yba.slices_Clone_string_zero (a : Addr) (c : Nat) (w : World) :
    Calls Yba.prog 6 #[.slice (some a) 0 c] w fun e w' => ∃ v', e = .returned v' ∧ w'.ownsRow w.heap.size 9 1 v' 0 [] ∧ v' ≠ .slice none 0 0 ∧ Below w.heap.size w w' := Any.slices_Clone_string_zero Yba.laysNm216 a c w
def Yba.lays194_ren : Go.Shelf.Ren := ⟨fun | 194 => 5 | n => n, fun | 31 => 22 | 9 => 9 | 3 => 3 | 4 => 4 | 0 => 0 | n => n, fun | n => n⟩
theorem Yba.lays194 : Go.Proofs.Lays.n194 Yba.prog Yba.lays194_ren := {
  mixed := by kernel_rfl
  f194 := Yba.func5.trans (congrArg some (by kernel_rfl))
  t0 := Yba.underlying0
  a0 := Yba.isAgg0
  z0 := Yba.sizeOf0
  v0 := Yba.zeroValue0
  t3 := Yba.underlying3
  a3 := Yba.isAgg3
  z3 := Yba.sizeOf3
  v3 := Yba.zeroValue3
  t4 := Yba.underlying4
  a4 := Yba.isAgg4
  z4 := Yba.sizeOf4
  v4 := Yba.zeroValue4
  t9 := Yba.underlying9
  a9 := Yba.isAgg9
  z9 := Yba.sizeOf9
  v9 := Yba.zeroValue9
  t31 := Yba.underlying22
  a31 := Yba.isAgg22
  z31 := Yba.sizeOf22
  v31 := Yba.zeroValue22 }
open Go.RowKit Go.Lib Go.Sort in
theorem Yba.slices_Compact_string_arr (blk off cap : Nat) (d : Array (List UInt8)) (w : World) (hH : Holds encStr w blk off d) (hsz : d.size ≤ 9223372036854775807) (hcap : d.size ≤ cap) :
    Calls Yba.prog 5 #[.slice (some ⟨blk, off, none⟩) d.size cap] w fun e w' => e = .returned (.slice (some ⟨blk, off, none⟩) (compactUpTo d d.size).length cap) ∧ ∃ q, w' = putRow encStr (Sort.ahead w q) blk off (compactUpTo d d.size ++ List.replicate (d.size - (compactUpTo d d.size).length) []).toArray := Any.slices_Compact_string_arr Yba.lays194 blk off cap d w hH hsz hcap
open Go.RowKit Go.Lib Go.Sort in
theorem Yba.slices_Compact_string (blk off cap : Nat) (zs : List (List UInt8)) (w : World) (hH : Holds encStr w blk off zs.toArray) (hsz : zs.length ≤ 9223372036854775807) (hcap : zs.length ≤ cap) :
    Calls Yba.prog 5 #[.slice (some ⟨blk, off, none⟩) zs.length cap] w fun e w' => e = .returned (.slice (some ⟨blk, off, none⟩) (Lib.compact zs).length cap) ∧ ∃ q, w' = putRow encStr (Sort.ahead w q) blk off (Lib.compact zs ++ List.replicate (zs.length - (Lib.compact zs).length) []).toArray := Any.slices_Compact_string Yba.lays194 blk off cap zs w hH hsz hcap
open Go.RowKit Go.Lib Go.Sort in
theorem Yba.slices_Compact_string_empty (a : Option Addr) (cap : Nat) (w : World) :
    Calls Yba.prog 5 #[.slice a 0 cap] w fun e w' => e = .returned (.slice a 0 cap) ∧ w' = w := Any.slices_Compact_string_empty Yba.lays194 a cap w
open Go.RowKit Go.Lib Go.Sort in
theorem Yba.slices_Reverse_string_cells (b off n c : Nat) (Sx : Nat → ByteArray) (w : World) (hbig : n ≤ 9223372036854775807) (hc : ∀ i, i < n → w.cell? ⟨b, off + i, none⟩ = some (.string (Sx i))) (hf : ∀ j, j < n → w.frozen? ⟨b, off + j, none⟩ = false) :
    Calls Yba.prog 42 #[.slice (some ⟨b, off, none⟩) n c] w fun e w' => e = .returned (.tuple #[]) ∧ ∃ q, w' = (w.drewN q).setCells b off ((Lib.strsOf Sx n).reverse.map encStr) := Any.slices_Reverse_string_cells Yba.laysNm217 b off n c Sx w hbig hc hf
open Go.RowKit Go.Lib Go.Sort in
theorem Yba.slices_Compact_string_cells (b off n c : Nat) (Sx : Nat → ByteArray) (w : World) (hbig : n ≤ 9223372036854775807) (hcap : n ≤ c) (hc : ∀ i, i < n → w.cell? ⟨b, off + i, none⟩ = some (.string (Sx i))) (hf : ∀ j, j < n → w.frozen? ⟨b, off + j, none⟩ = false) :
    Calls Yba.prog 5 #[.slice (some ⟨b, off, none⟩) n c] w fun e w' => e = .returned (.slice (some ⟨b, off, none⟩) (Lib.compact (Lib.strsOf Sx n)).length c) ∧ ∃ q, w' = (w.drewN q).setCells b off ((Lib.compact (Lib.strsOf Sx n) ++ List.replicate (n - (Lib.compact (Lib.strsOf Sx n)).length) []).map encStr) := Any.slices_Compact_string_cells Yba.lays194 b off n c Sx w hbig hcap hc hf
open Go.RowKit Go.Sort in
theorem Yba.slices_Sort_string_none (p : Option Addr) (cap : Nat) (w : World) :
    Calls Yba.prog 4 #[.slice p 0 cap] w fun e w' => e = .returned (.tuple #[]) ∧ w' = w := Any.slices_Sort_string_none Yba.lays190 p cap w
open Go.RowKit Go.Lib in
theorem Yba.slices_Equal_string_lens (a1 a2 : Option Addr) (n c m d : Nat) (w : World) (hnm : n ≠ m) :
    Calls Yba.prog 10 #[.slice a1 n c, .slice a2 m d] w fun e w' => e = .returned (.bool false) ∧ w' = w := Any.slices_Equal_string_lens Yba.lays193 a1 a2 n c m d w hnm
def Yba.laysSlE041_f6_ren : Go.Shelf.Ren := ⟨fun | 41 => 6 | n => n, fun | 22 => 22 | 23 => 9 | 4 => 4 | n => n, fun | n => n⟩
theorem Yba.laysSlE041_f6 : Go.Proofs.SlLaysE0.n41 Yba.prog Yba.laysSlE041_f6_ren := {
  mixed := by kernel_rfl
  f41 := ⟨Yba.f6.name, by decide, Yba.func6.trans (congrArg some (by kernel_rfl))⟩
  t4 := Yba.underlying4
  a4 := Yba.isAgg4
  z4 := Yba.sizeOf4
  v4 := Yba.zeroValue4
  t22 := Yba.underlying22
  a22 := Yba.isAgg22
  z22 := Yba.sizeOf22
  v22 := Yba.zeroValue22 }
open Go.RowKit Go.Lib in
theorem Yba.slices_Clone_f6 (i0 : TypeInfo) (z : Value) (size bytes : Nat) (hi : Yba.prog.info? 9 = some i0) (hz0 : i0.zero = some z) (hz1 : i0.size = size) (hz2 : i0.bytes = bytes) (hzs : z.cells.size = size) (hsz : 0 < size) (z23 : ∀ w, (Go.sizeOf 9).run Yba.prog w = .ok size w) (b off n c : Nat) (news : List Value) (w : World) (hl : news.length = n * size) (hn : n ≤ maxLen) (hbig : n * bytes ≤ 140737488355328) (hc : ∀ j u, news[j]? = some u → w.cell? ⟨b, off + j, none⟩ = some u) (h1 : ∀ u ∈ news, u.oneCell' = true) :
    Calls Yba.prog 6 #[.slice (some ⟨b, off, none⟩) n c] w fun e w' => ∃ v', e = .returned v' ∧ w'.ownsRow w.heap.size 9 size v' n news ∧ v' ≠ .slice none 0 0 ∧ Below w.heap.size w w' := AnyE.slices_Clone Yba.laysSlE041_f6 i0 z size bytes hi hz0 hz1 hz2 hzs hsz z23 b off n c news w hl hn hbig hc h1
def Yba.laysSlE041_f7_ren : Go.Shelf.Ren := ⟨fun | 41 => 7 | n => n, fun | 22 => 23 | 23 => 24 | 4 => 4 | n => n, fun | n => n⟩
theorem Yba.laysSlE041_f7 : Go.Proofs.SlLaysE0.n41 Yba.prog Yba.laysSlE041_f7_ren := {
  mixed := by kernel_rfl
  f41 := ⟨Yba.f7.name, by decide, Yba.func7.trans (congrArg some (by kernel_rfl))⟩
  t4 := Yba.underlying4
  a4 := Yba.isAgg4
  z4 := Yba.sizeOf4
  v4 := Yba.zeroValue4
  t22 := Yba.underlying23
  a22 := Yba.isAgg23
  z22 := Yba.sizeOf23
  v22 := Yba.zeroValue23 }
open Go.RowKit Go.Lib in
theorem Yba.slices_Clone_f7 (i0 : TypeInfo) (z : Value) (size bytes : Nat) (hi : Yba.prog.info? 24 = some i0) (hz0 : i0.zero = some z) (hz1 : i0.size = size) (hz2 : i0.bytes = bytes) (hzs : z.cells.size = size) (hsz : 0 < size) (z23 : ∀ w, (Go.sizeOf 24).run Yba.prog w = .ok size w) (b off n c : Nat) (news : List Value) (w : World) (hl : news.length = n * size) (hn : n ≤ maxLen) (hbig : n * bytes ≤ 140737488355328) (hc : ∀ j u, news[j]? = some u → w.cell? ⟨b, off + j, none⟩ = some u) (h1 : ∀ u ∈ news, u.oneCell' = true) :
    Calls Yba.prog 7 #[.slice (some ⟨b, off, none⟩) n c] w fun e w' => ∃ v', e = .returned v' ∧ w'.ownsRow w.heap.size 24 size v' n news ∧ v' ≠ .slice none 0 0 ∧ Below w.heap.size w w' := AnyE.slices_Clone Yba.laysSlE041_f7 i0 z size bytes hi hz0 hz1 hz2 hzs hsz z23 b off n c news w hl hn hbig hc h1
open Go.RowKit Go.Lib in
theorem Yba.slices_Clone_nil_f6 (n c : Nat) (w : World) :
    Calls Yba.prog 6 #[.slice none n c] w fun e w' => e = .returned (.slice none 0 0) ∧ w' = w := AnyE.slices_Clone_nil Yba.laysSlE041_f6 n c w
open Go.RowKit Go.Lib in
theorem Yba.slices_Clone_nil_f7 (n c : Nat) (w : World) :
    Calls Yba.prog 7 #[.slice none n c] w fun e w' => e = .returned (.slice none 0 0) ∧ w' = w := AnyE.slices_Clone_nil Yba.laysSlE041_f7 n c w
def Yba.laysNm226_ren : Go.Shelf.Ren := ⟨fun | 26 => 13 | 33 => 23 | 34 => 28 | 38 => 38 | n => n, fun | 24 => 22 | 9 => 9 | 3 => 3 | 4 => 4 | 40 => 37 | 0 => 0 | n => n, fun | n => n⟩
theorem Yba.laysNm226 : Go.Proofs.Lays2.n26 Yba.prog Yba.laysNm226_ren := {
  mixed := by kernel_rfl
  f26 := Yba.func13.trans (congrArg some (by kernel_rfl))
  f33 := Yba.func23.trans (congrArg some (by kernel_rfl))
  f34 := Yba.func28.trans (congrArg some (by kernel_rfl))
  f38 := Yba.func38.trans (congrArg some (by kernel_rfl))
  t0 := Yba.underlying0
  a0 := Yba.isAgg0
  z0 := Yba.sizeOf0
  v0 := Yba.zeroValue0
  t3 := Yba.underlying3
  a3 := Yba.isAgg3
  z3 := Yba.sizeOf3
  v3 := Yba.zeroValue3
  t4 := Yba.underlying4
  a4 := Yba.isAgg4
  z4 := Yba.sizeOf4
  v4 := Yba.zeroValue4
  t9 := Yba.underlying9
  a9 := Yba.isAgg9
  z9 := Yba.sizeOf9
  v9 := Yba.zeroValue9
  t24 := Yba.underlying22
  a24 := Yba.isAgg22
  z24 := Yba.sizeOf22
  v24 := Yba.zeroValue22
  t40 := Yba.underlying37
  a40 := Yba.isAgg37
  z40 := Yba.sizeOf37
  v40 := Yba.zeroValue37 }
open Go.RowKit Go.Lib in
theorem Yba.slices_BinarySearch_string (b off n c : Nat) (Sx : Nat → ByteArray) (x : ByteArray) (w : World) (hbig : n < 4611686018427387904) (hc : ∀ j, j < n → w.cell? ⟨b, off + j, none⟩ = some (.string (Sx j))) :
    Calls Yba.prog 13 #[.slice (some ⟨b, off, none⟩) n c, .string x] w fun e w' =>
      e = .returned (.tuple #[.int .i64 (Lib.bsGo (fun t => Op.bytesLess (Sx t).toList x.toList) n 0 n : Nat), .bool (decide (Lib.bsGo (fun t => Op.bytesLess (Sx t).toList x.toList) n 0 n < n ∧ Sx (Lib.bsGo (fun t => Op.bytesLess (Sx t).toList x.toList) n 0 n) = x))]) ∧ ∃ q, w' = w.drewN q := Any2.slices_BinarySearch_string Yba.laysNm226 b off n c Sx x w hbig hc
def Yba.laysNm222_ren : Go.Shelf.Ren := ⟨fun | 22 => 15 | 29 => 29 | 30 => 30 | 36 => 39 | 17 => 42 | n => n, fun | 24 => 22 | 9 => 9 | 3 => 3 | 4 => 4 | 0 => 0 | n => n, fun | n => n⟩
theorem Yba.laysNm222 : Go.Proofs.Lays2.n22 Yba.prog Yba.laysNm222_ren := {
  mixed := by kernel_rfl
  f17 := Yba.func42.trans (congrArg some (by kernel_rfl))
  f22 := Yba.func15.trans (congrArg some (by kernel_rfl))
  f29 := Yba.func29.trans (congrArg some (by kernel_rfl))
  f30 := Yba.func30.trans (congrArg some (by kernel_rfl))
  f36 := Yba.func39.trans (congrArg some (by kernel_rfl))
  t0 := Yba.underlying0
  a0 := Yba.isAgg0
  z0 := Yba.sizeOf0
  v0 := Yba.zeroValue0
  t3 := Yba.underlying3
  a3 := Yba.isAgg3
  z3 := Yba.sizeOf3
  v3 := Yba.zeroValue3
  t4 := Yba.underlying4
  a4 := Yba.isAgg4
  z4 := Yba.sizeOf4
  v4 := Yba.zeroValue4
  t9 := Yba.underlying9
  a9 := Yba.isAgg9
  z9 := Yba.sizeOf9
  v9 := Yba.zeroValue9
  t24 := Yba.underlying22
  a24 := Yba.isAgg22
  z24 := Yba.sizeOf22
  v24 := Yba.zeroValue22
  i9 := by kernel_rfl }
open Go.RowKit Go.Lib in
theorem Yba.slices_Insert_string_shift (b off n c i vb voff m vc : Nat) (cs vs : List Value) (w : World) (hi : i < n) (hm : 0 < m) (hroom : n + m ≤ c) (hc63 : c ≤ 9223372036854775807) (hvb : vb ≠ b)
    (hcl : cs.length = n) (hvl : vs.length = m)
    (hcs : ∀ j v, cs[j]? = some v → w.cell? ⟨b, off + j, none⟩ = some v) (hsp : ∀ j, j < n + m → (w.cell? ⟨b, off + j, none⟩).isSome = true) (hfz : ∀ j, j < n + m → w.frozen? ⟨b, off + j, none⟩ = false)
    (hvs : ∀ j v, vs[j]? = some v → w.cell? ⟨vb, voff + j, none⟩ = some v) (h1c : ∀ v ∈ cs, v.oneCell' = true) (h1v : ∀ v ∈ vs, v.oneCell' = true)
    (tA tB : TypeId) (kA kB : Nat) (hsa : w.shape? vb = some (tA, kA)) (hsb : w.shape? b = some (tB, kB)) (hkB : kB ≠ 0) (hfa : w.frozen? ⟨vb, voff, none⟩ = false) (hfe : w.frozen? ⟨vb, kA, none⟩ = false) :
    Calls Yba.prog 15 #[.slice (some ⟨b, off, none⟩) n c, .int .i64 i, .slice (some ⟨vb, voff, none⟩) m vc] w fun e w' =>
      e = .returned (.slice (some ⟨b, off, none⟩) (n + m) c) ∧ w' = (w.drew.setCells b (off + (i + m)) (cs.drop i)).setCells b (off + i) vs := Any2.slices_Insert_string_shift Yba.laysNm222 b off n c i vb voff m vc cs vs w hi hm hroom hc63 hvb hcl hvl hcs hsp hfz hvs h1c h1v tA tB kA kB hsa hsb hkB hfa hfe
open Go.RowKit Go.Lib in
theorem Yba.slices_Insert_string_end_room (b off n c vb voff m vc : Nat) (vs : List Value) (w : World) (hm : 0 < m) (hroom : n + m ≤ c) (hc63 : c ≤ 9223372036854775807)
    (hvl : vs.length = m) (hsp : ∀ j, j < m → (w.cell? ⟨b, off + n + j, none⟩).isSome = true) (hfz : ∀ j, j < m → w.frozen? ⟨b, off + n + j, none⟩ = false)
    (hvs : ∀ j v, vs[j]? = some v → w.cell? ⟨vb, voff + j, none⟩ = some v) (h1v : ∀ v ∈ vs, v.oneCell' = true) :
    Calls Yba.prog 15 #[.slice (some ⟨b, off, none⟩) n c, .int .i64 n, .slice (some ⟨vb, voff, none⟩) m vc] w fun e w' =>
      e = .returned (.slice (some ⟨b, off, none⟩) (n + m) c) ∧ w' = w.setCells b (off + n) vs := Any2.slices_Insert_string_end_room Yba.laysNm222 b off n c vb voff m vc vs w hm hroom hc63 hvl hsp hfz hvs h1v
end Go.Proofs
