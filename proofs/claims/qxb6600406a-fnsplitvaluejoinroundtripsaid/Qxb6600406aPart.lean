/-
  THE WALKS of the functions on the road of FnSplitValueJoinRoundTrip, and the plain law on the first zero byte.
-/
import Derived.Test.Qxb6600406aRows
import Derived.WalkKit
import Derived.WalkSpells
import Derived.WalkLawsBesides
import Derived.Deep.QuietTactic
import Derived.BigQuiet
import Derived.Lib.BytesEntry
namespace Go.Proofs.Qxb6600406a
open Go.RowKit
set_option linter.unusedVariables false

/-! ### plain -/
/-- A value without a zero, then padding that is empty or opens with a zero: the first zero. -/
theorem first_zero : ∀ (v p : List UInt8), (∀ x ∈ v, x ≠ 0) → (p = [] ∨ ∃ t, p = 0 :: t) → Lib.indexByte (v ++ p) 0 = if p = [] then -1 else (v.length : Int)
  | [], p, _, hp => by
    rcases hp with rfl | ⟨t, rfl⟩
    · rfl
    · simp [Lib.indexByte]
  | a :: v, p, hv, hp => by
    have ih := first_zero v p (fun x hx => hv x (by simp [hx])) hp
    have ha : a ≠ 0 := hv a (by simp)
    rw [List.cons_append]
    unfold Lib.indexByte
    rw [ih]
    by_cases h : p = []
    · simp [h, ha]
    · have h1 : ¬ ((v.length : Int) = -1) := by omega
      simp [h, ha, h1]

/-- WHAT THE WALK IS TOLD OF A SLICE OF BYTES: it has no element, or its cells hold them. -/
def Byts (w : World) (a : Option Addr) (n : Nat) (Z : Nat → Int) : Prop :=
  n = 0 ∨ ∃ b off, a = some ⟨b, off, none⟩ ∧ ∀ j, j < n → w.cell? ⟨b, off + j, none⟩ = some (.int .u8 (Z j))

theorem Byts.at {w : World} {a : Option Addr} {n : Nat} {Z : Nat → Int} (h : Byts w a n Z) {k : Nat} (hk : k < n) : ∃ b off, a = some ⟨b, off, none⟩ ∧ w.cell? ⟨b, off + k, none⟩ = some (.int .u8 (Z k)) := by
  rcases h with h | ⟨b, off, e, h⟩
  · omega
  · exact ⟨b, off, e, h k hk⟩

/-! ### zzBytes -/
set_option maxHeartbeats 400000 in
theorem small_yes (a0 a1 : Option Addr) (n0 c0 n1 c1 : Nat) (w : World) (h : n0 + n1 ≤ 1048576) :
    Calls Try.prog 11 #[.slice a0 n0 c0, .slice a1 n1 c1] w fun e w' => e = .returned (.bool true) ∧ w' = w := by
  go_enter Try.func11, Try.ntmps11
  go_wp2
  go_ret
  exact ⟨rfl, rfl⟩

set_option maxHeartbeats 400000 in
theorem small_no (a0 a1 : Option Addr) (n0 c0 n1 c1 : Nat) (w : World) (h : 1048576 < n0 + n1) (h0 : n0 ≤ maxLen) (h1 : n1 ≤ maxLen) :
    Calls Try.prog 11 #[.slice a0 n0 c0, .slice a1 n1 c1] w fun e w' => e = .returned (.bool false) ∧ w' = w := by
  unfold maxLen at h0 h1
  by_cases h2 : 1048576 < n0
  · go_enter Try.func11, Try.ntmps11
    go_wp2
    go_ret
    exact ⟨rfl, rfl⟩
  by_cases h3 : 1048576 < n1
  · go_enter Try.func11, Try.ntmps11
    go_wp2
    go_ret
    exact ⟨rfl, rfl⟩
  go_enter Try.func11, Try.ntmps11
  go_wp2
  go_ret
  exact ⟨rfl, rfl⟩

/-! ### zzSameBytes, where the bytes are the same -/
set_option maxHeartbeats 1000000 in
theorem same_yes (a0 a1 : Option Addr) (n c0 c1 : Nat) (Z : Nat → Int) (w : World) (hn : n ≤ 1048576) (h0 : Byts w a0 n Z) (h1 : Byts w a1 n Z) :
    Calls Try.prog 13 #[.slice a0 n c0, .slice a1 n c1] w fun e w' => e = .returned (.bool true) ∧ ∃ q, w' = w.drewN q := by
  have H0 : Hid (Byts w a0 n Z) := h0
  have H1 : Hid (Byts w a1 n Z) := h1
  clear h0 h1
  go_enter Try.func13, Try.ntmps13
  go_wp2
  go_loopw [5] (fun i wr => ∃ k q : Nat, k ≤ n ∧ i = .int .i64 k ∧ wr = w.drewN q) (fun i _ => n - (intOf i).toNat)
  case atStart => exact ⟨0, 0, Nat.zero_le _, rfl, rfl⟩
  case round =>
    obtain ⟨k, q, hk, rfl, rfl⟩ := hrel
    by_cases hlt : k < n
    · obtain ⟨b0, o0, rfl, hc0⟩ := H0.out.at hlt
      obtain ⟨b1, o1, rfl, hc1⟩ := H1.out.at hlt
      have hlt' : (k : Int) < (n : Int) := by omega
      generalize Z k = z at hc0 hc1
      go_wp2_with fail
      go_quiet (fail)
      go_wp2
      go_roundw
      case rel => exact ⟨k + 1, _, by omega, by go_num, rfl⟩
      case measure => simp [intOf]; omega
    · go_wp2
      go_ret
      exact ⟨rfl, _, rfl⟩

/-! ### bytes.IndexByte, splitValue -/
set_option maxHeartbeats 1000000 in
theorem indexByte_any (b o n c : Nat) (xs : List Int) (w : World) (hx : xs.length = n) (hc : ∀ i, i < n → w.cell? ⟨b, o + i, none⟩ = some (.int .u8 (xs.getD i 0))) :
    Calls Try.prog 17 #[.slice (some ⟨b, o, none⟩) n c, .int .u8 0] w fun e w' => e = .returned (.int .i64 (Lib.indexByte (Lib.bytesOf xs) 0)) ∧ w' = w := by
  have hrun := Lib.run_indexByteSlice (P := Try.prog) w b o n c xs hx hc 0
  have H : Hid ((Extern.BytealgIndexByte.indexByte #[.slice (some ⟨b, o, none⟩) n c, .int .u8 0]).run Try.prog w = .ok (.int .i64 (Lib.indexByte (Lib.bytesOf xs) 0)) w) := hrun
  clear hrun hc
  go_enter Try.func17, Try.ntmps17
  go_wp2
  rw [run_callFunc_extern Try.func18 (by kernel_rfl) (by kernel_rfl) (by kernel_rfl) (e := Extern.BytealgIndexByte.indexByte) (by kernel_rfl), H.out]
  simp only [Result.andThen]
  rw [Oper.upon_value]
  go_wp2
  go_ret
  exact ⟨rfl, rfl⟩

set_option maxHeartbeats 1000000 in
theorem split_none (b n c : Nat) (xs : List Int) (w : World) (hx : xs.length = n) (hc : ∀ i, i < n → w.cell? ⟨b, 0 + i, none⟩ = some (.int .u8 (xs.getD i 0))) (hi : Lib.indexByte (Lib.bytesOf xs) 0 = -1) :
    Calls Try.prog 16 #[.slice (some ⟨b, 0, none⟩) n c] w fun e w' => e = .returned (.tuple #[.slice (some ⟨b, 0, none⟩) n c, .slice none 0 0]) ∧ w' = w := by
  have hcon := indexByte_any b 0 n c xs w hx hc
  rw [hi] at hcon
  clear hc hi
  go_enter Try.func16, Try.ntmps16
  go_wp2_with (go_at_call 17; refine hcon.mono ?_; rintro e w' ⟨rfl, rfl⟩)
  go_ret2
  exact ⟨rfl, rfl⟩

set_option maxHeartbeats 1000000 in
theorem split_some (b k m : Nat) (xs : List Int) (w : World) (hx : xs.length = k + m) (hc : ∀ i, i < k + m → w.cell? ⟨b, 0 + i, none⟩ = some (.int .u8 (xs.getD i 0))) (hi : Lib.indexByte (Lib.bytesOf xs) 0 = (k : Int)) (hm : 0 < m) (hn : k + m ≤ 1048576) :
    Calls Try.prog 16 #[.slice (some ⟨b, 0, none⟩) (k + m) (k + m)] w fun e w' => e = .returned (.tuple #[.slice (some ⟨b, 0, none⟩) k (k + m), .slice (some ⟨b, k, none⟩) m m]) ∧ ∃ q, w' = w.drewN q := by
  have hcon := indexByte_any b 0 (k + m) (k + m) xs w hx hc
  rw [hi] at hcon
  clear hc hi
  go_enter Try.func16, Try.ntmps16
  go_wp2_with (go_at_call 17; refine hcon.mono ?_; rintro e w' ⟨rfl, rfl⟩)
  go_quiet (fail)
  go_wp2
  go_ret2
  exact ⟨rfl, _, rfl⟩

set_option maxHeartbeats 400000 in
theorem zzsplit {v u : Value} {D : World → Prop} {c : Value} {w : World} (h : Calls Try.prog 16 #[c] w fun e w' => e = .returned (.tuple #[v, u]) ∧ D w') :
    Calls Try.prog 12 #[c] w fun e w' => e = .returned (.tuple #[v, u]) ∧ D w' := by
  have H : Hid (Calls Try.prog 16 #[c] w fun e w' => e = .returned (.tuple #[v, u]) ∧ D w') := h
  clear h
  go_enter Try.func12, Try.ntmps12
  go_wp2_with (go_at_call 16; refine H.out.mono ?_; rintro e w' ⟨rfl, hD⟩)
  go_ret2
  exact ⟨rfl, hD⟩
end Go.Proofs.Qxb6600406a
