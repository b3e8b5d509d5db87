/-
  The row that the law writes: its appends, each as one law for the walk.
-/
import Derived.Test.Qxb6600207aDecl
namespace Go.Proofs.Qxb6600207a
open Go.RowKit
set_option linter.unusedVariables false

/-- The row that is being written: k bytes, the list l, at block g; below it the world is as w0 was. -/
structure Grows (w0 : World) (g cap k : Nat) (l : List UInt8) (w : World) : Prop where
  own : w.ownsRow w0.heap.size 5 1 (.slice (some ⟨g, 0, none⟩) k cap) k (cellsB l)
  bel : Below w0.heap.size w0 w
  len : k = l.length

theorem Grows.base {w0 w : World} {g cap k : Nat} {l : List UInt8} (h : Grows w0 g cap k l w) : w0.heap.size ≤ g := by
  rcases h.own.2 with ⟨h, _⟩ | ⟨g', cap', cur, h, hbg, _⟩
  · cases h
  · cases h; exact hbg

theorem Grows.alloc {w0 w : World} {g cap k : Nat} {l : List UInt8} (h : Grows w0 g cap k l w) (o : Obj) : Grows w0 g cap k l (w.alloc o) := ⟨h.own.alloc _, h.bel.alloc h.bel.size _, h.len⟩

theorem Grows.row {w0 w : World} {g cap k : Nat} {l : List UInt8} (h : Grows w0 g cap k l w) : Row w (some ⟨g, 0, none⟩) l := by
  refine Or.inr ⟨g, 0, rfl, fun j hj => ?_⟩
  have := h.own.cellAt j (by rw [h.len]; omega)
  rw [Nat.zero_add, this]
  exact cellsB_at hj

/-- append(row, slice...), with room. -/
theorem append_row {ops : Array Oper} {rest : List Oper} {o : Oper} {a : Act} {Q : Exit → Act → World → Prop} (w : World) (hg : o.guard = none) (s x : Operand)
    (hop : o.op = Op.call { callee := Callee.builtin Builtin.append, args := #[s, x], argTypes := #[28, 28] }) (w0 : World) (g cap k : Nat) (l : List UInt8) (hs : a.eval s = .slice (some ⟨g, 0, none⟩) k cap) (hgr : Grows w0 g cap k l w)
    (ao : Option Addr) (m c : Nat) (news : List UInt8) (hx : a.eval x = .slice ao m c) (hm : m = news.length) (hnone : ao = none → m = 0 ∧ c = 0) (hrow : Row w ao news) (k' : Nat) (hk' : k' = k + m) (hroom : k' ≤ cap)
    (hK : ∀ w', Hid (Grows w0 g cap k' (l ++ news) w') → wpList Try.prog ops Q rest (a.put o.dst (.slice (some ⟨g, 0, none⟩) k' cap)) w') :
    wpList Try.prog ops Q (o :: rest) a w := by
  obtain ⟨i0, hi, hz0, hz1, hz2⟩ := info_parts info5
  subst hk'
  refine wpList_append_fits_any w hg s x 28 hop w0.heap.size 5 i0 1 Try.underlying28 hi hz1 g k cap (cellsB l) hs hgr.own ao m c (cellsB news) hx (by rw [cellsB_length, hm]; omega) hnone hrow.src (cellsB_one _) hroom ?_
  intro w' hown hgrow
  refine hK w' ⟨by rw [cellsB_append]; exact hown, hgr.bel.grown hgrow hgr.bel.size (fun j hj => by cases hj; exact hgr.base), by rw [List.length_append, ← hm, ← hgr.len]⟩

/-- append(row, string...), with room. -/
theorem append_str {ops : Array Oper} {rest : List Oper} {o : Oper} {a : Act} {Q : Exit → Act → World → Prop} (w : World) (hg : o.guard = none) (s x : Operand)
    (hop : o.op = Op.call { callee := Callee.builtin Builtin.append, args := #[s, x], argTypes := #[28, 9] }) (w0 : World) (g cap k : Nat) (l : List UInt8) (hs : a.eval s = .slice (some ⟨g, 0, none⟩) k cap) (hgr : Grows w0 g cap k l w)
    (st : ByteArray) (hx : a.eval x = .string st) (k' : Nat) (hk' : k' = k + st.size) (hroom : k' ≤ cap)
    (hK : ∀ w', Hid (Grows w0 g cap k' (l ++ st.data.toList) w') → wpList Try.prog ops Q rest (a.put o.dst (.slice (some ⟨g, 0, none⟩) k' cap)) w') :
    wpList Try.prog ops Q (o :: rest) a w := by
  subst hk'
  refine wpList_append_string w hg s x hop w0.heap.size g k cap l hgr.len hs hgr.own st hx hroom ?_
  intro w' hown hgrow
  exact hK w' ⟨hown, hgr.bel.grown hgrow hgr.bel.size (fun j hj => by cases hj; exact hgr.base), by rw [List.length_append, ← hgr.len]; simp⟩

theorem row_one (w : World) (q : UInt8) : Row (w.alloc (.cells #[.int .u8 (q.toNat : Int)] 5)) (some ⟨w.heap.size, 0, none⟩) [q] := by
  refine Or.inr ⟨w.heap.size, 0, rfl, fun j hj => ?_⟩
  have h0 : j = 0 := by simp at hj; exact hj
  subst h0
  simp

/-- No q among the first k. -/
def NoQ (l : List UInt8) (q : UInt8) (k : Nat) : Prop := ∀ j, j < k → l.getD j 0 ≠ q
theorem NoQ.next {l : List UInt8} {q : UInt8} {k : Nat} (h : NoQ l q k) (hk : (((l.getD k 0).toNat : Int) == (q.toNat : Int)) = false) : NoQ l q (k + 1) := fun j hj => by
  by_cases e : j = k
  · subst e
    intro h'
    rw [h'] at hk
    simp at hk
  · exact h j (by omega)
theorem NoQ.all {l : List UInt8} {q : UInt8} (h : NoQ l q l.length) : q ∉ l := by
  intro hm
  obtain ⟨j, hj, e⟩ := List.getElem_of_mem hm
  exact h j hj (by rw [List.getD_eq_getElem?_getD, List.getElem?_eq_getElem hj]; exact e)

/-- None of the first k places matches. -/
def NoM (L K : List UInt8) (k : Nat) : Prop := ∀ p, p < k → occB L K p = false
theorem NoM.next {L K : List UInt8} {k : Nat} (h : NoM L K k) (hk : occB L K k = false) : NoM L K (k + 1) := fun j hj => by
  by_cases e : j = k
  · subst e; exact hk
  · exact h j (by omega)

theorem written (P K V R : List UInt8) (q : UInt8) : [] ++ P ++ K ++ [q] ++ V ++ [q] ++ R = content P K V R q := by
  simp [content]

theorem content_value (P K V R : List UInt8) (q : UInt8) (j : Nat) (h : j < V.length) : (content P K V R q).getD (P.length + K.length + 1 + j) 0 = V.getD j 0 := by
  rw [content_tail, List.getD_eq_getElem?_getD, List.getElem?_append_left h, List.getD_eq_getElem?_getD]

theorem value_row {w0 w : World} {g cap k : Nat} {P K V R : List UInt8} {q : UInt8} (h : Grows w0 g cap k (content P K V R q) w) : Row w (some ⟨g, P.length + K.length + 1, none⟩) V := by
  refine Or.inr ⟨g, P.length + K.length + 1, rfl, fun j hj => ?_⟩
  have hl := content_length P K V R q
  obtain ⟨b, off, e, hc⟩ := h.row.at (k := P.length + K.length + 1 + j) (by omega)
  cases e
  rw [Nat.zero_add, content_value _ _ _ _ _ _ hj] at hc
  exact hc
end Go.Proofs.Qxb6600207a
