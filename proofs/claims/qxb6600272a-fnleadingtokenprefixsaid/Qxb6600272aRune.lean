/-
  strings.IndexRune and strings.ContainsRune, at a rune beyond ASCII and a short string of ASCII bytes: -1, false.
-/
import Derived.Test.Qxb6600272aRows
import Derived.Test.Qxb6600272aShelf
import Derived.Test.Qxb6600272aPlain
import Derived.WalkKit
import Derived.WalkSpells
import Derived.WalkLawsBesides
import Derived.Deep.QuietTactic
import Derived.Deep.LoopGhost
import Derived.BigQuiet
import Derived.Below
import Derived.Laws.Runes
namespace Go.Proofs.Qxb6600272a
open Go.RowKit Go.Shelf
set_option linter.unusedVariables false

/-- Every byte is ASCII. -/
def Asc (s : ByteArray) : Prop := ∀ b ∈ s.data.toList, b.toNat < 128

theorem hid {p : Prop} (h : p) : Hid p := h

set_option maxHeartbeats 2000000 in
set_option maxRecDepth 100000 in
theorem rune_surr (s : ByteArray) (r : Int) (w : World) (h0 : 55296 ≤ r) (h1 : r ≤ 57343) :
    Calls Try.prog 15 #[.string s, .int .i32 r] w fun e w' => e = .returned (.int .i64 (-1)) ∧ Below w.heap.size w w' := by
  have hv : Lib.validRune r = false := by simp [Lib.validRune]; omega
  have hc := Try.utf8_ValidRune r w
  rw [hv] at hc
  have HC := hid hc
  clear hc hv
  go_enter Try.func15, Try.ntmps15
  go_wp2_with (go_at_call 17; refine HC.out.mono ?_; rintro e w' ⟨rfl, hw⟩; obtain rfl := hw.symm)
  go_ret
  exact ⟨rfl, Below.refl _ _⟩

theorem asc_decode {s : ByteArray} (h : Asc s) {pos : Nat} (hp : pos < s.size) : (Utf8.decode s pos).1 < 128 := by
  have hb : (s[pos]'hp).toNat < 128 := h _ (Array.getElem_mem_toList (xs := s.data) hp)
  rw [decode_ascii s pos hp hb]
  exact hb

set_option maxHeartbeats 2000000 in
set_option maxRecDepth 100000 in
theorem rune_err (s : ByteArray) (w : World) (ha : Asc s) :
    Calls Try.prog 15 #[.string s, .int .i32 65533] w fun e w' => e = .returned (.int .i64 (-1)) ∧ Below w.heap.size w w' := by
  have HA := hid ha
  clear ha
  go_enter Try.func15, Try.ntmps15
  go_wp2
  go_loopg [] s.size (fun gf wx => ∃ pos : Nat, wx.heap[w.heap.size]? = some (.stringIter s pos) ∧ Below w.heap.size w wx ∧ s.size ≤ pos + gf)
  case atStart => exact ⟨0, World.iter_heap w s 0, (Below.refl _ w).alloc (Nat.le_refl _) _, by omega⟩
  case round =>
    obtain ⟨pos, hit, hbw, hfu⟩ := hrel
    by_cases hps : pos < s.size
    · obtain ⟨g', rfl⟩ : ∃ g', gk = g' + 1 := ⟨gk - 1, by omega⟩
      have hnx : ∀ ty, (Instr.next (.pointer (some ⟨w.heap.size, 0, none⟩)) true ty).run Try.prog wr = _ := fun ty => Lib.run_next_any_at wr w.heap.size s pos ty hit hps
      have hwd := Lib.width_pos s pos
      have hlo := asc_decode HA.out hps
      obtain ⟨R, hR⟩ : ∃ R, (Utf8.decode s pos).1 = R := ⟨_, rfl⟩
      obtain ⟨K, hK⟩ : ∃ K, (Utf8.decode s pos).2 = K := ⟨_, rfl⟩
      rw [hR, hK] at hnx
      rw [hK] at hwd
      rw [hR] at hlo
      have hit2 := Lib.iterAt_heap wr w.heap.size s pos (pos + K) hit
      have hbw2 := Lib.below_iterAt hbw (k := w.heap.size) (Nat.le_refl _) s (pos + K)
      obtain ⟨W, hWd⟩ : ∃ W, wr.iterAt w.heap.size s (pos + K) = W := ⟨_, rfl⟩
      rw [hWd] at hnx hit2 hbw2
      have hne : ((R : Int) == 65533) = false := by simp; omega
      go_wp2
      go_roundg g'
      case measure => omega
      case rel => exact ⟨pos + K, hit2, hbw2, by omega⟩
    · have hnx : ∀ ty, (Instr.next (.pointer (some ⟨w.heap.size, 0, none⟩)) true ty).run Try.prog wr = _ := fun ty => Lib.run_next_end_at wr w.heap.size s pos ty hit hps
      go_wp2
      go_ret
      exact ⟨rfl, hbw⟩
end Go.Proofs.Qxb6600272a
