/-
  The shelf's contracts at this dump, in plain words (by the kit's lay-shelf.mjs and lay-plain.mjs).
-/
import Derived.Shelf.Bytes.SlIndexAt
import Derived.Shelf.Bytes.SlIndexWhole
import Derived.Shelf.LaysM
import Derived.Test.Qxb6600207aProg
namespace Go.Proofs
open Go.Shelf
def Try.lays185_ren : Go.Shelf.Ren := ⟨fun | 185 => 20 | 187 => 21 | 115 => 22 | 253 => 23 | 224 => 24 | 254 => 25 | 255 => 26 | 291 => 27 | n => n, fun | 37 => 28 | 3 => 3 | 4 => 4 | 0 => 0 | 5 => 5 | 46 => 48 | 9 => 9 | 146 => 50 | 51 => 49 | n => n, fun | 1 => 0 | n => n⟩
theorem Try.lays185 : Go.Proofs.Lays.n185 Try.prog Try.lays185_ren := {
  mixed := by kernel_rfl
  f115 := Try.func22.trans (congrArg some (by kernel_rfl))
  f185 := Try.func20.trans (congrArg some (by kernel_rfl))
  f187 := Try.func21.trans (congrArg some (by kernel_rfl))
  f224 := Try.func24.trans (congrArg some (by kernel_rfl))
  f253 := Try.func23.trans (congrArg some (by kernel_rfl))
  f254 := Try.func25.trans (congrArg some (by kernel_rfl))
  f255 := Try.func26.trans (congrArg some (by kernel_rfl))
  f291 := Try.func27.trans (congrArg some (by kernel_rfl))
  t0 := Try.underlying0
  a0 := Try.isAgg0
  z0 := Try.sizeOf0
  v0 := Try.zeroValue0
  t3 := Try.underlying3
  a3 := Try.isAgg3
  z3 := Try.sizeOf3
  v3 := Try.zeroValue3
  t4 := Try.underlying4
  a4 := Try.isAgg4
  z4 := Try.sizeOf4
  v4 := Try.zeroValue4
  t5 := Try.underlying5
  a5 := Try.isAgg5
  z5 := Try.sizeOf5
  v5 := Try.zeroValue5
  t9 := Try.underlying9
  a9 := Try.isAgg9
  z9 := Try.sizeOf9
  v9 := Try.zeroValue9
  t37 := Try.underlying28
  a37 := Try.isAgg28
  z37 := Try.sizeOf28
  v37 := Try.zeroValue28
  t46 := Try.underlying48
  a46 := Try.isAgg48
  z46 := Try.sizeOf48
  v46 := Try.zeroValue48
  t51 := Try.underlying49
  a51 := Try.isAgg49
  z51 := Try.sizeOf49
  v51 := Try.zeroValue49
  t146 := Try.underlying50
  a146 := Try.isAgg50
  z146 := Try.sizeOf50
  v146 := Try.zeroValue50
  g1 := by kernel_rfl }
def Try.lays187_ren : Go.Shelf.Ren := ⟨fun | 187 => 21 | 255 => 26 | n => n, fun | 37 => 28 | 5 => 5 | 3 => 3 | n => n, fun | n => n⟩
theorem Try.lays187 : Go.Proofs.Lays.n187 Try.prog Try.lays187_ren := {
  mixed := by kernel_rfl
  f187 := Try.func21.trans (congrArg some (by kernel_rfl))
  f255 := Try.func26.trans (congrArg some (by kernel_rfl))
  t3 := Try.underlying3
  a3 := Try.isAgg3
  z3 := Try.sizeOf3
  v3 := Try.zeroValue3
  t5 := Try.underlying5
  a5 := Try.isAgg5
  z5 := Try.sizeOf5
  v5 := Try.zeroValue5
  t37 := Try.underlying28
  a37 := Try.isAgg28
  z37 := Try.sizeOf28
  v37 := Try.zeroValue28 }
open Go.RowKit Go.Lib in
theorem Try.bytes_IndexByte_at (a : Addr) (n c : Nat) (xs : List Int) (cv : Int) (w : World) (hx : xs.length = n) (hc : ∀ i, i < n → w.cell? (a.add i) = some (.int .u8 (xs.getD i 0))) :
    Calls Try.prog 21 #[.slice (some a) n c, .int .u8 cv] w fun e w' => e = .returned (.int .i64 (Lib.indexByte (Lib.bytesOf xs) cv.toNat.toUInt8)) ∧ w' = w := Any.bytes_IndexByte_at Try.lays187 a n c xs cv w hx hc
def Try.laysM185_ren : Go.Shelf.Ren := ⟨fun | 185 => 20 | 187 => 21 | 115 => 22 | 253 => 23 | 224 => 24 | 254 => 25 | 255 => 26 | 291 => 27 | n => n, fun | 37 => 28 | 3 => 3 | 4 => 4 | 0 => 0 | 5 => 5 | 46 => 48 | 9 => 9 | 146 => 50 | 51 => 49 | n => n, fun | 1 => 0 | n => n⟩
theorem Try.laysM185 : Go.Proofs.LaysM.n185 Try.prog Try.laysM185_ren := {
  mixed := by kernel_rfl
  f115 := Try.func22.trans (congrArg some (by kernel_rfl))
  f185 := Try.func20.trans (congrArg some (by kernel_rfl))
  f187 := Try.func21.trans (congrArg some (by kernel_rfl))
  f224 := Try.func24.trans (congrArg some (by kernel_rfl))
  f253 := Try.func23.trans (congrArg some (by kernel_rfl))
  f254 := Try.func25.trans (congrArg some (by kernel_rfl))
  f255 := Try.func26.trans (congrArg some (by kernel_rfl))
  f291 := Try.func27.trans (congrArg some (by kernel_rfl))
  t0 := Try.underlying0
  a0 := Try.isAgg0
  z0 := Try.sizeOf0
  v0 := Try.zeroValue0
  t3 := Try.underlying3
  a3 := Try.isAgg3
  z3 := Try.sizeOf3
  v3 := Try.zeroValue3
  t4 := Try.underlying4
  a4 := Try.isAgg4
  z4 := Try.sizeOf4
  v4 := Try.zeroValue4
  t5 := Try.underlying5
  a5 := Try.isAgg5
  z5 := Try.sizeOf5
  v5 := Try.zeroValue5
  t9 := Try.underlying9
  a9 := Try.isAgg9
  z9 := Try.sizeOf9
  v9 := Try.zeroValue9
  t37 := Try.underlying28
  a37 := Try.isAgg28
  z37 := Try.sizeOf28
  v37 := Try.zeroValue28
  t46 := Try.underlying48
  a46 := Try.isAgg48
  z46 := Try.sizeOf48
  v46 := Try.zeroValue48
  t51 := Try.underlying49
  a51 := Try.isAgg49
  z51 := Try.sizeOf49
  v51 := Try.zeroValue49
  t146 := Try.underlying50
  a146 := Try.isAgg50
  z146 := Try.sizeOf50
  v146 := Try.zeroValue50
  g1 := by kernel_rfl
  i0 := by kernel_rfl
  i3 := by kernel_rfl
  i4 := by kernel_rfl
  i5 := by kernel_rfl
  i9 := by kernel_rfl
  i37 := by kernel_rfl
  i46 := by kernel_rfl
  i51 := by kernel_rfl
  i146 := by kernel_rfl
  m1 := by kernel_rfl
  s1_3 := fun w h => Go.Proofs.cell_of_shapedOpen_int (zero := #[.int .i64 0]) (t := 3) h (of_decide_eq_true (by kernel_rfl)) (by kernel_rfl) rfl (by kernel_rfl) (by kernel_rfl) Try.underlying3 }
open Go.Proofs Go.RowKit Go.Lib in
theorem Try.bytes_Index_at (a1 a2 : Addr) (n c1 k c2 : Nat) (xs ys : List Int) (m : Int) (w : World) (hx : xs.length = n) (hy : ys.length = k) (hr1 : ∀ x ∈ xs, 0 ≤ x ∧ x < 256) (hr2 : ∀ y ∈ ys, 0 ≤ y ∧ y < 256) (hc1 : ∀ i, i < n → w.cell? (a1.add i) = some (.int .u8 (xs.getD i 0))) (hc2 : ∀ i, i < k → w.cell? (a2.add i) = some (.int .u8 (ys.getD i 0))) (hcap : n ≤ c1) (hs : n < 4294967281) (hk : k ≤ 9223372036854775807) (hm : w.cell? ⟨0, 0, none⟩ = some (.int .i64 m)) :
    Calls Try.prog 20 #[.slice (some a1) n c1, .slice (some a2) k c2] w fun e w' => e = .returned (.int .i64 (Lib.index (Lib.bytesOf xs) (Lib.bytesOf ys))) ∧ ∃ q, w' = w.drewN q := Any.bytes_Index_at Try.lays185 a1 a2 n c1 k c2 xs ys m w hx hy hr1 hr2 hc1 hc2 hcap hs hk hm
end Go.Proofs
