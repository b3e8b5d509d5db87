/-
  MEMORY THAT THE CALL ITSELF MAKES: b1Clone.
-/
import Derived.Test.Qxb6600023aLeaf
import Derived.Sort.EncStr
import Derived.Carry
namespace Go.Proofs.Qxb6600023a
open Go.RowKit

/-- The slice value v owns the strings ss, in a row from block B on (or it is nil and ss is empty). -/
def Own (B : Nat) (w : World) (v : Value) (ss : List (List UInt8)) : Prop := w.ownsRow B 9 1 v ss.length (ss.map encStr)

theorem info9 : (Try.prog.info? 9).map (fun i => (i.zero, i.size, i.bytes)) = some (some (.string ⟨#[]⟩), 1, 16) := by kernel_rfl

/-- The strings of a slice, as lists of bytes. -/
def strsOf (n : Nat) (S : Nat → ByteArray) : List (List UInt8) := (List.range n).map fun j => (S j).data.toList

theorem strsOf_length (n : Nat) (S : Nat → ByteArray) : (strsOf n S).length = n := by simp [strsOf]

/-- What lies in the clone when k strings have been copied. -/
def copied (n k : Nat) (S : Nat → ByteArray) : List Value := (List.range n).map fun j => if j < k then .string (S j) else .string ⟨#[]⟩

theorem copied_zero (n : Nat) (S : Nat → ByteArray) : copied n 0 S = List.replicate n (.string ⟨#[]⟩) := by
  apply List.ext_getElem <;> simp [copied]
theorem copied_at (n k : Nat) (S : Nat → ByteArray) (h : k < n) : (copied n k S)[k]? = some (.string ⟨#[]⟩) := by
  simp [copied, h]
theorem copied_set (n k : Nat) (S : Nat → ByteArray) (h : k < n) : (copied n k S).set k (.string (S k)) = copied n (k + 1) S := by
  apply List.ext_getElem
  · simp [copied]
  · intro i h1 h2
    have hi : i < n := by simpa [copied] using h2
    by_cases e : i = k
    · subst e; simp [copied]
    · rw [List.getElem_set_ne (by omega)]
      simp only [copied, List.getElem_map, List.getElem_range]
      by_cases h3 : i < k
      · rw [if_pos h3, if_pos (by omega)]
      · rw [if_neg h3, if_neg (by omega)]
theorem copied_all (n : Nat) (S : Nat → ByteArray) : copied n n S = (strsOf n S).map encStr := by
  apply List.ext_getElem
  · simp [copied, strsOf]
  · intro i h1 h2
    have hi : i < n := by simpa [copied] using h1
    simp [copied, strsOf, hi, encStr]

theorem lt_of_cell {w : World} {b o : Nat} {v : Value} (h : w.cell? ⟨b, o, none⟩ = some v) : b < w.heap.size := by
  rcases Nat.lt_or_ge b w.heap.size with h1 | h1
  · exact h1
  · exfalso
    have : w.heap[b]? = none := Array.getElem?_eq_none h1
    simp [World.cell?, this] at h

/-- THE CLONE's CONTRACT. -/
def Cloned (n : Nat) (S : Nat → ByteArray) (w : World) (e : Ending) (w' : World) : Prop := ∃ v, e = .returned v ∧ Own w.heap.size w' v (strsOf n S) ∧ Below w.heap.size w w'

set_option maxHeartbeats 1000000 in
theorem clone_any (a : Option Addr) (n c : Nat) (S : Nat → ByteArray) (w : World) (hn : n ≤ 1048576) (hS : Strs w a n S) :
    Calls Try.prog 13 #[.slice a n c] w (Cloned n S w) := by
  have q22 : ∀ (w : World) (a : Option Addr) (n c n' c' : Nat), (binOp .eql 22 (.slice a n c) (.slice none n' c')).run Try.prog w = .ok (.bool a.isNone) w := fun w a n c n' c' => Lib.run_eql_slice_nil w _ _ a n c n' c' Try.underlying22
  have HS : Hid (Strs w a n S) := hS
  clear hS
  cases a with
  | none =>
    have h0 : n = 0 := by
      rcases HS.out with h | ⟨b, off, e, _⟩
      · exact h
      · cases e
    subst h0
    go_enter Try.func13, Try.ntmps13
    go_wp2
    go_ret
    exact ⟨_, rfl, World.ownsRow_nil _ _ _ _, Below.refl _ _⟩
  | some ad =>
    obtain ⟨i0, hi, hz0, hz1, hz2⟩ := info_parts info9
    go_enter Try.func13, Try.ntmps13
    go_wp2_with (at_make; refine wpList_make_full _ rfl (.tmp 8) (.tmp 8) 22 rfl w.heap.size 9 i0 (.string ⟨#[]⟩) 1 Try.underlying22 hi hz0 hz1 .i64 .i64 _ _ n rfl rfl rfl rfl (by rw [hz2]; omega) (by unfold maxLen; omega) (Nat.le_refl _) ?_; intro w1 hown hgrow)
    have hb1 : Below w.heap.size w w1 := (Below.refl _ _).grown hgrow (Nat.le_refl _) (fun k hk => by cases hk)
    have hown0 : w1.ownsRow w.heap.size 9 1 (.slice (some ⟨w.heap.size, 0, none⟩) n n) n (copied n 0 S) := by
      rw [copied_zero]
      have e : (madeCells (Value.string ⟨#[]⟩).cells (n * 1)).toList = List.replicate n (Value.string ⟨#[]⟩) := by
        rw [Nat.mul_one]; exact toList_madeCells_one _ _
      rw [e] at hown
      exact hown
    clear hown hgrow q22
    go_loopw [4] (fun i wr => ∃ k : Nat, k ≤ n ∧ i = .int .i64 k ∧ wr.ownsRow w.heap.size 9 1 (.slice (some ⟨w.heap.size, 0, none⟩) n n) n (copied n k S) ∧ Below w.heap.size w wr) (fun i _ => n - (intOf i).toNat)
    case atStart => exact ⟨0, Nat.zero_le _, rfl, hown0, hb1⟩
    case round =>
      obtain ⟨k, hk, rfl, hown, hbel⟩ := hrel
      clear hown0 hb1
      by_cases hlt : k < n
      · obtain ⟨b, off, e, hcell0⟩ := HS.out.at hlt
        cases e
        have hcell : wr.cell? ⟨b, off + k, none⟩ = some (.string (S k)) := (hbel.cell (lt_of_cell hcell0)).trans hcell0
        have hold : wr.cell? ⟨w.heap.size, k, none⟩ = some (.string ⟨#[]⟩) := (hown.cellAt k (by omega)).trans (copied_at n k S hlt)
        have hfr : wr.frozen? ⟨w.heap.size, k, none⟩ = false := hown.frozenAt k
        have X : Hid ((wr.setCell ⟨w.heap.size, k, none⟩ (.string (S k))).ownsRow w.heap.size 9 1 (.slice (some ⟨w.heap.size, 0, none⟩) n n) n (copied n (k + 1) S) ∧ Below w.heap.size w (wr.setCell ⟨w.heap.size, k, none⟩ (.string (S k)))) := by
          have h := (hown.stored k (.string (S k))).1
          rw [copied_set n k S hlt] at h
          exact ⟨h, hbel.setCell (Nat.le_refl _) _⟩
        clear hown hbel hcell0
        generalize S k = s at hcell X
        go_wp2
        go_roundw
        case rel => exact ⟨k + 1, by omega, by go_num, X.out.1, X.out.2⟩
        case measure => simp [intOf]; omega
      · obtain rfl : k = n := by omega
        have X : Hid (Own w.heap.size wr (.slice (some ⟨w.heap.size, 0, none⟩) k k) (strsOf k S) ∧ Below w.heap.size w wr) := by
          refine ⟨?_, hbel⟩
          unfold Own
          rw [strsOf_length, ← copied_all]
          exact hown
        clear hown hbel
        go_wp2
        go_ret
        exact ⟨_, rfl, X.out.1, X.out.2⟩
end Go.Proofs.Qxb6600023a
