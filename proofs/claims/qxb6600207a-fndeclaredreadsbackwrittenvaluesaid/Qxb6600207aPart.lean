/-
  THE WALKS of the small functions on the road of FnDeclaredReadsBackWrittenValue, over rows of bytes.
-/
import Derived.Test.Qxb6600207aRows
import Derived.Test.Qxb6600207aShelf
import Derived.WalkKit
import Derived.WalkSpells
import Derived.WalkLawsBesides
import Derived.Deep.QuietTactic
import Derived.BigQuiet
import Derived.Deep.AppendSrc
import Derived.Lib.IndexLaws
namespace Go.Proofs.Qxb6600207a
open Go.RowKit
set_option linter.unusedVariables false

theorem hid {p : Prop} (h : p) : Hid p := h
theorem ret_bool {a b : Bool} (h : a = b) : Ending.returned (.bool a) = .returned (.bool b) := by rw [h]

/-- Bytes as cells. -/
def cellsB (l : List UInt8) : List Value := l.map fun b => Value.int .u8 b.toNat
theorem cellsB_length (l : List UInt8) : (cellsB l).length = l.length := by simp [cellsB]
theorem cellsB_append (l m : List UInt8) : cellsB (l ++ m) = cellsB l ++ cellsB m := by simp [cellsB]
theorem cellsB_one (l : List UInt8) : ∀ v ∈ cellsB l, v.oneCell' = true := by
  intro v hv
  obtain ⟨j, _, rfl⟩ := List.mem_map.1 hv
  rfl
theorem cellsB_at {l : List UInt8} {j : Nat} (h : j < l.length) : (cellsB l)[j]? = some (.int .u8 ((l.getD j 0).toNat : Int)) := by
  simp [cellsB, List.getD_eq_getElem?_getD, h]

/-- The slice at a holds the bytes l. -/
def Row (w : World) (a : Option Addr) (l : List UInt8) : Prop := l = [] ∨ ∃ b off, a = some ⟨b, off, none⟩ ∧ ∀ j, j < l.length → w.cell? ⟨b, off + j, none⟩ = some (.int .u8 ((l.getD j 0).toNat : Int))

theorem Row.at {w : World} {a : Option Addr} {l : List UInt8} (h : Row w a l) {k : Nat} (hk : k < l.length) : ∃ b off, a = some ⟨b, off, none⟩ ∧ w.cell? ⟨b, off + k, none⟩ = some (.int .u8 ((l.getD k 0).toNat : Int)) := by
  rcases h with h | ⟨b, off, e, h⟩
  · subst h; simp at hk
  · exact ⟨b, off, e, h k hk⟩

theorem lt_of_cell {w : World} {b o : Nat} {v : Value} (h : w.cell? ⟨b, o, none⟩ = some v) : b < w.heap.size := by
  rcases Nat.lt_or_ge b w.heap.size with h1 | h1
  · exact h1
  · exfalso
    have : w.heap[b]? = none := Array.getElem?_eq_none h1
    simp [World.cell?, this] at h

theorem Row.below {w w' : World} {a : Option Addr} {l : List UInt8} (h : Row w a l) (hb : Below w.heap.size w w') : Row w' a l := by
  rcases h with h | ⟨b, off, rfl, h⟩
  · exact Or.inl h
  · exact Or.inr ⟨b, off, rfl, fun j hj => (hb.cell (lt_of_cell (h j hj))).trans (h j hj)⟩

theorem Row.draws {w : World} {a : Option Addr} {q : Nat} {l : List UInt8} (h : Row w a l) : Row (w.drewN q) a l := h.below (below_drewN (Below.refl _ _) _)

/-- What an append reads of it. -/
theorem Row.src {w : World} {a : Option Addr} {l : List UInt8} (h : Row w a l) : ∀ ad, a = some ad → ∀ j u, (cellsB l)[j]? = some u → w.cell? (ad.add j) = some u := by
  intro ad ha j u hj
  have hjl : j < l.length := by have := (List.getElem?_eq_some_iff.1 hj).1; simpa [cellsB] using this
  obtain ⟨b, off, e, hc⟩ := h.at hjl
  rw [ha] at e
  cases e
  rw [Go.WideShapes.add_plain, hc, ← cellsB_at hjl]
  exact hj

/-- The slice value v owns the bytes l. -/
def OwnB (B : Nat) (w : World) (v : Value) (l : List UInt8) : Prop := w.ownsRow B 5 1 v l.length (cellsB l)

theorem OwnB.row {B : Nat} {w : World} {v : Value} {l : List UInt8} (h : OwnB B w v l) : ∃ a c, v = .slice a l.length c ∧ (a = none → l.length = 0 ∧ c = 0) ∧ Row w a l := by
  rcases h.2 with ⟨rfl, h0⟩ | ⟨g, cap, cur, rfl, hb, hg, hn, hm, hs, ht⟩
  · exact ⟨none, 0, by rw [h0], fun _ => ⟨h0, rfl⟩, Or.inl (List.eq_nil_of_length_eq_zero h0)⟩
  · refine ⟨_, cap, rfl, fun h => (by cases h), Or.inr ⟨g, 0, rfl, fun j hj => ?_⟩⟩
    have := h.cellAt j (by omega)
    rw [Nat.zero_add, this]
    exact cellsB_at hj

theorem info5 : (Try.prog.info? 5).map (fun i => (i.zero, i.size, i.bytes)) = some (some (.int .u8 0), 1, 1) := by kernel_rfl

/-! ### zzBytes -/
set_option maxHeartbeats 400000 in
theorem small_yes (a0 a2 a4 : Option Addr) (n0 c0 n2 c2 n4 c4 : Nat) (p : ByteArray) (sg : Bool) (w : World) (h : n0 + p.size + n2 + n4 ≤ 1048576) :
    Calls Try.prog 15 #[.slice a0 n0 c0, .string p, .slice a2 n2 c2, .bool sg, .slice a4 n4 c4] w fun e w' => e = .returned (.bool true) ∧ w' = w := by
  go_enter Try.func15, Try.ntmps15
  go_wp2
  go_ret
  exact ⟨rfl, rfl⟩

set_option maxHeartbeats 1000000 in
theorem small_no (a0 a2 a4 : Option Addr) (n0 c0 n2 c2 n4 c4 : Nat) (p : ByteArray) (sg : Bool) (w : World) (h : 1048576 < n0 + p.size + n2 + n4) (h0 : n0 ≤ maxLen) (hp : p.size ≤ maxLen) (h2 : n2 ≤ maxLen) (h4 : n4 ≤ maxLen) :
    Calls Try.prog 15 #[.slice a0 n0 c0, .string p, .slice a2 n2 c2, .bool sg, .slice a4 n4 c4] w fun e w' => e = .returned (.bool false) ∧ w' = w := by
  unfold maxLen at h0 hp h2 h4
  go_enter Try.func15, Try.ntmps15
  go_wp2
  all_goals go_ret
  all_goals exact ⟨rfl, rfl⟩

/-! ### fnBytesEqual, where the bytes are the same -/
set_option maxHeartbeats 1000000 in
theorem same_yes (a0 a1 : Option Addr) (c0 c1 : Nat) (l : List UInt8) (w : World) (hn : l.length ≤ 1048576) (h0 : Row w a0 l) (h1 : Row w a1 l) :
    Calls Try.prog 14 #[.slice a0 l.length c0, .slice a1 l.length c1] w fun e w' => e = .returned (.bool true) ∧ ∃ q, w' = w.drewN q := by
  have H0 := hid h0
  have H1 := hid h1
  clear h0 h1
  go_enter Try.func14, Try.ntmps14
  go_wp2
  go_loopw [5] (fun i wr => ∃ k q : Nat, k ≤ l.length ∧ i = .int .i64 k ∧ wr = w.drewN q) (fun i _ => l.length - (intOf i).toNat)
  case atStart => exact ⟨0, 0, Nat.zero_le _, rfl, rfl⟩
  case round =>
    obtain ⟨k, q, hk, rfl, rfl⟩ := hrel
    by_cases hlt : k < l.length
    · obtain ⟨b0, o0, rfl, hc0⟩ := H0.out.at hlt
      obtain ⟨b1, o1, rfl, hc1⟩ := H1.out.at hlt
      have hlt' : (k : Int) < (l.length : Int) := by omega
      generalize ((l.getD k 0).toNat : Int) = z at hc0 hc1
      go_wp2_with fail
      go_quiet (fail)
      go_wp2
      go_roundw
      case rel => exact ⟨k + 1, _, by omega, by go_num, rfl⟩
      case measure => simp [intOf]; omega
    · go_wp2
      go_ret
      exact ⟨rfl, _, rfl⟩
end Go.Proofs.Qxb6600207a
