/-
  The shelf's contracts at this dump, in plain words (by the kit's lay-shelf.mjs and lay-plain.mjs; slices.BinarySearch laid by a line of its own).
-/
import Derived.Shelf.Small.Wraps
import Derived.Shelf.Strings.Search1
import Derived.Shelf.Strings.Search2
import Derived.Shelf.Sort.Plain
import Derived.Shelf.Slices.CompactS
import Derived.Shelf.Slices.In.SortNone
import Derived.Shelf.Spec.SearchS
import Derived.Test.Qxb6600023aProg
namespace Go.Proofs
open Go.Shelf
def Try.lays103_ren : Go.Shelf.Ren := ⟨fun | 103 => 35 | 210 => 44 | 206 => 51 | n => n, fun | 9 => 9 | 4 => 4 | 24 => 40 | 3 => 3 | n => n, fun | n => n⟩
theorem Try.lays103 : Go.Proofs.Lays.n103 Try.prog Try.lays103_ren := {
  mixed := by kernel_rfl
  f103 := Try.func35.trans (congrArg some (by kernel_rfl))
  f206 := Try.func51.trans (congrArg some (by kernel_rfl))
  f210 := Try.func44.trans (congrArg some (by kernel_rfl))
  t3 := Try.underlying3
  a3 := Try.isAgg3
  z3 := Try.sizeOf3
  v3 := Try.zeroValue3
  t4 := Try.underlying4
  a4 := Try.isAgg4
  z4 := Try.sizeOf4
  v4 := Try.zeroValue4
  t9 := Try.underlying9
  a9 := Try.isAgg9
  z9 := Try.sizeOf9
  v9 := Try.zeroValue9
  t24 := Try.underlying40
  a24 := Try.isAgg40
  z24 := Try.sizeOf40
  v24 := Try.zeroValue40 }
open Go.RowKit in
theorem Try.strings_CutPrefix (s p : ByteArray) (w : World) :
    Calls Try.prog 35 #[.string s, .string p] w fun e w' => e = .returned (.tuple #[.string ⟨(Lib.trimPrefix s.data.toList p.data.toList).toArray⟩, .bool (Lib.hasPrefix s.data.toList p.data.toList)]) ∧ w' = w := Any.strings_CutPrefix Try.lays103 s p w
def Try.lays219_ren : Go.Shelf.Ren := ⟨fun | 219 => 52 | 217 => 55 | 225 => 56 | 224 => 57 | 267 => 58 | 266 => 69 | 314 => 70 | n => n, fun | 9 => 9 | 3 => 3 | 4 => 4 | 5 => 5 | 46 => 53 | 146 => 70 | 51 => 38 | n => n, fun | 1 => 0 | n => n⟩
theorem Try.lays219 : Go.Proofs.Lays.n219 Try.prog Try.lays219_ren := {
  mixed := by kernel_rfl
  f217 := Try.func55.trans (congrArg some (by kernel_rfl))
  f219 := Try.func52.trans (congrArg some (by kernel_rfl))
  f224 := Try.func57.trans (congrArg some (by kernel_rfl))
  f225 := Try.func56.trans (congrArg some (by kernel_rfl))
  f266 := Try.func69.trans (congrArg some (by kernel_rfl))
  f267 := Try.func58.trans (congrArg some (by kernel_rfl))
  f314 := Try.func70.trans (congrArg some (by kernel_rfl))
  t3 := Try.underlying3
  a3 := Try.isAgg3
  z3 := Try.sizeOf3
  v3 := Try.zeroValue3
  t4 := Try.underlying4
  a4 := Try.isAgg4
  z4 := Try.sizeOf4
  v4 := Try.zeroValue4
  t5 := Try.underlying5
  a5 := Try.isAgg5
  z5 := Try.sizeOf5
  v5 := Try.zeroValue5
  t9 := Try.underlying9
  a9 := Try.isAgg9
  z9 := Try.sizeOf9
  v9 := Try.zeroValue9
  t46 := Try.underlying53
  a46 := Try.isAgg53
  z46 := Try.sizeOf53
  v46 := Try.zeroValue53
  t51 := Try.underlying38
  a51 := Try.isAgg38
  z51 := Try.sizeOf38
  v51 := Try.zeroValue38
  t146 := Try.underlying70
  a146 := Try.isAgg70
  z146 := Try.sizeOf70
  v146 := Try.zeroValue70
  g1 := by kernel_rfl }
open Go.RowKit Go.Lib in
theorem Try.stringslite_Index_one (s : ByteArray) (c : UInt8) (w : World) :
    Calls Try.prog 52 #[.string s, .string ⟨#[c]⟩] w fun e w' => e = .returned (.int .i64 (Lib.indexByte s.data.toList c)) ∧ w' = w := Any.stringslite_Index_one Try.lays219 s c w
def Try.lays190_ren : Go.Shelf.Ren := ⟨fun | 190 => 46 | 125 => 54 | 258 => 53 | 128 => 67 | 129 => 68 | 302 => 59 | 303 => 60 | 304 => 61 | 305 => 62 | 306 => 63 | 307 => 64 | 308 => 42 | 309 => 65 | 310 => 66 | 333 => 71 | 329 => 72 | 330 => 73 | 334 => 74 | 335 => 75 | 336 => 50 | 344 => 76 | n => n, fun | 31 => 22 | 9 => 9 | 3 => 3 | 46 => 53 | 0 => 0 | 51 => 38 | 53 => 69 | 4 => 4 | 183 => 62 | 182 => 61 | 131 => 45 | 5 => 5 | 218 => 72 | 222 => 76 | 228 => 78 | 229 => 79 | n => n, fun | n => n⟩
theorem Try.lays190 : Go.Proofs.Lays.n190 Try.prog Try.lays190_ren := {
  mixed := by kernel_rfl
  f125 := Try.func54.trans (congrArg some (by kernel_rfl))
  f128 := Try.func67.trans (congrArg some (by kernel_rfl))
  f129 := Try.func68.trans (congrArg some (by kernel_rfl))
  f190 := Try.func46.trans (congrArg some (by kernel_rfl))
  f258 := Try.func53.trans (congrArg some (by kernel_rfl))
  f302 := Try.func59.trans (congrArg some (by kernel_rfl))
  f303 := Try.func60.trans (congrArg some (by kernel_rfl))
  f304 := Try.func61.trans (congrArg some (by kernel_rfl))
  f305 := Try.func62.trans (congrArg some (by kernel_rfl))
  f306 := Try.func63.trans (congrArg some (by kernel_rfl))
  f307 := Try.func64.trans (congrArg some (by kernel_rfl))
  f308 := Try.func42.trans (congrArg some (by kernel_rfl))
  f309 := Try.func65.trans (congrArg some (by kernel_rfl))
  f310 := Try.func66.trans (congrArg some (by kernel_rfl))
  f329 := Try.func72.trans (congrArg some (by kernel_rfl))
  f330 := Try.func73.trans (congrArg some (by kernel_rfl))
  f333 := Try.func71.trans (congrArg some (by kernel_rfl))
  f334 := Try.func74.trans (congrArg some (by kernel_rfl))
  f335 := Try.func75.trans (congrArg some (by kernel_rfl))
  f336 := Try.func50.trans (congrArg some (by kernel_rfl))
  f344 := Try.func76.trans (congrArg some (by kernel_rfl))
  t0 := Try.underlying0
  a0 := Try.isAgg0
  z0 := Try.sizeOf0
  v0 := Try.zeroValue0
  t3 := Try.underlying3
  a3 := Try.isAgg3
  z3 := Try.sizeOf3
  v3 := Try.zeroValue3
  t4 := Try.underlying4
  a4 := Try.isAgg4
  z4 := Try.sizeOf4
  v4 := Try.zeroValue4
  t5 := Try.underlying5
  a5 := Try.isAgg5
  z5 := Try.sizeOf5
  v5 := Try.zeroValue5
  t9 := Try.underlying9
  a9 := Try.isAgg9
  z9 := Try.sizeOf9
  v9 := Try.zeroValue9
  t31 := Try.underlying22
  a31 := Try.isAgg22
  z31 := Try.sizeOf22
  v31 := Try.zeroValue22
  t46 := Try.underlying53
  a46 := Try.isAgg53
  z46 := Try.sizeOf53
  v46 := Try.zeroValue53
  t51 := Try.underlying38
  a51 := Try.isAgg38
  z51 := Try.sizeOf38
  v51 := Try.zeroValue38
  t53 := Try.underlying69
  a53 := Try.isAgg69
  z53 := Try.sizeOf69
  v53 := Try.zeroValue69
  t131 := Try.underlying45
  a131 := Try.isAgg45
  z131 := Try.sizeOf45
  v131 := Try.zeroValue45
  t182 := Try.underlying61
  a182 := Try.isAgg61
  z182 := Try.sizeOf61
  v182 := Try.zeroValue61
  t183 := Try.underlying62
  a183 := Try.isAgg62
  z183 := Try.sizeOf62
  v183 := Try.zeroValue62
  t218 := Try.underlying72
  a218 := Try.isAgg72
  z218 := Try.sizeOf72
  v218 := Try.zeroValue72
  t222 := Try.underlying76
  a222 := Try.isAgg76
  z222 := Try.sizeOf76
  v222 := Try.zeroValue76
  t228 := Try.underlying78
  a228 := Try.isAgg78
  z228 := Try.sizeOf78
  v228 := Try.zeroValue78
  t229 := Try.underlying79
  a229 := Try.isAgg79
  z229 := Try.sizeOf79
  v229 := Try.zeroValue79 }
open Go.Sort Go.RowKit in
theorem Try.slices_Sort_string (blk off cap : Nat) (ss : List (List UInt8)) (w : World) (hH : Holds encStr w blk off ss.toArray) (hblk : blk < w.heap.size) (hsz : ss.length < 4611686018427387904) :
    Calls Try.prog 46 #[.slice (some ⟨blk, off, none⟩) ss.length cap] w fun e w' =>
      e = .returned (.tuple #[]) ∧ ∃ n os, w' = grow (putRow encStr (Sort.ahead w n) blk off (ss.mergeSort fun x y => decide (x ≤ y)).toArray) os := Any.slices_Sort_string Try.lays190 blk off cap ss w hH hblk hsz
def Try.lays194_ren : Go.Shelf.Ren := ⟨fun | 194 => 47 | n => n, fun | 31 => 22 | 9 => 9 | 3 => 3 | 4 => 4 | 0 => 0 | n => n, fun | n => n⟩
theorem Try.lays194 : Go.Proofs.Lays.n194 Try.prog Try.lays194_ren := {
  mixed := by kernel_rfl
  f194 := Try.func47.trans (congrArg some (by kernel_rfl))
  t0 := Try.underlying0
  a0 := Try.isAgg0
  z0 := Try.sizeOf0
  v0 := Try.zeroValue0
  t3 := Try.underlying3
  a3 := Try.isAgg3
  z3 := Try.sizeOf3
  v3 := Try.zeroValue3
  t4 := Try.underlying4
  a4 := Try.isAgg4
  z4 := Try.sizeOf4
  v4 := Try.zeroValue4
  t9 := Try.underlying9
  a9 := Try.isAgg9
  z9 := Try.sizeOf9
  v9 := Try.zeroValue9
  t31 := Try.underlying22
  a31 := Try.isAgg22
  z31 := Try.sizeOf22
  v31 := Try.zeroValue22 }
open Go.RowKit Go.Lib Go.Sort in
theorem Try.slices_Compact_string (blk off cap : Nat) (zs : List (List UInt8)) (w : World) (hH : Holds encStr w blk off zs.toArray) (hsz : zs.length ≤ 9223372036854775807) (hcap : zs.length ≤ cap) :
    Calls Try.prog 47 #[.slice (some ⟨blk, off, none⟩) zs.length cap] w fun e w' => e = .returned (.slice (some ⟨blk, off, none⟩) (Lib.compact zs).length cap) ∧ ∃ q, w' = putRow encStr (Sort.ahead w q) blk off (Lib.compact zs ++ List.replicate (zs.length - (Lib.compact zs).length) []).toArray := Any.slices_Compact_string Try.lays194 blk off cap zs w hH hsz hcap
open Go.RowKit Go.Lib Go.Sort in
theorem Try.slices_Compact_string_empty (a : Option Addr) (cap : Nat) (w : World) :
    Calls Try.prog 47 #[.slice a 0 cap] w fun e w' => e = .returned (.slice a 0 cap) ∧ w' = w := Any.slices_Compact_string_empty Try.lays194 a cap w
open Go.RowKit Go.Sort in
theorem Try.slices_Sort_string_none (p : Option Addr) (cap : Nat) (w : World) :
    Calls Try.prog 46 #[.slice p 0 cap] w fun e w' => e = .returned (.tuple #[]) ∧ w' = w := Any.slices_Sort_string_none Try.lays190 p cap w
def Try.laysNm226_ren : Go.Shelf.Ren := ⟨fun | 26 => 34 | 33 => 42 | 34 => 43 | 38 => 50 | n => n, fun | 24 => 22 | 9 => 9 | 3 => 3 | 4 => 4 | 40 => 53 | 0 => 0 | n => n, fun | n => n⟩
theorem Try.laysNm226 : Go.Proofs.Lays2.n26 Try.prog Try.laysNm226_ren := {
  mixed := by kernel_rfl
  f26 := Try.func34.trans (congrArg some (by kernel_rfl))
  f33 := Try.func42.trans (congrArg some (by kernel_rfl))
  f34 := Try.func43.trans (congrArg some (by kernel_rfl))
  f38 := Try.func50.trans (congrArg some (by kernel_rfl))
  t0 := Try.underlying0
  a0 := Try.isAgg0
  z0 := Try.sizeOf0
  v0 := Try.zeroValue0
  t3 := Try.underlying3
  a3 := Try.isAgg3
  z3 := Try.sizeOf3
  v3 := Try.zeroValue3
  t4 := Try.underlying4
  a4 := Try.isAgg4
  z4 := Try.sizeOf4
  v4 := Try.zeroValue4
  t9 := Try.underlying9
  a9 := Try.isAgg9
  z9 := Try.sizeOf9
  v9 := Try.zeroValue9
  t24 := Try.underlying22
  a24 := Try.isAgg22
  z24 := Try.sizeOf22
  v24 := Try.zeroValue22
  t40 := Try.underlying53
  a40 := Try.isAgg53
  z40 := Try.sizeOf53
  v40 := Try.zeroValue53 }
open Go.RowKit Go.Lib in
theorem Try.slices_BinarySearch_string (b off n c : Nat) (Sx : Nat → ByteArray) (x : ByteArray) (w : World) (hbig : n < 4611686018427387904) (hc : ∀ j, j < n → w.cell? ⟨b, off + j, none⟩ = some (.string (Sx j))) :
    Calls Try.prog 34 #[.slice (some ⟨b, off, none⟩) n c, .string x] w fun e w' =>
      e = .returned (.tuple #[.int .i64 (Lib.bsGo (fun t => Op.bytesLess (Sx t).toList x.toList) n 0 n : Nat), .bool (decide (Lib.bsGo (fun t => Op.bytesLess (Sx t).toList x.toList) n 0 n < n ∧ Sx (Lib.bsGo (fun t => Op.bytesLess (Sx t).toList x.toList) n 0 n) = x))]) ∧ ∃ q, w' = w.drewN q := Any2.slices_BinarySearch_string Try.laysNm226 b off n c Sx x w hbig hc
open Go.RowKit Go.Lib in
theorem Try.slices_BinarySearch_string_empty (a : Option Addr) (c : Nat) (x : ByteArray) (w : World) :
    Calls Try.prog 34 #[.slice a 0 c, .string x] w fun e w' => e = .returned (.tuple #[.int .i64 0, .bool false]) ∧ w' = w := Any2.slices_BinarySearch_string_empty Try.laysNm226 a c x w
end Go.Proofs
