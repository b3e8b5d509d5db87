/-
  fnCloneBytes, fnMatchAt; append of a string's bytes onto a row that the call made, with room.
-/
import Derived.Test.Qxb6600207aPart
namespace Go.Proofs.Qxb6600207a
open Go.RowKit
set_option linter.unusedVariables false

/-! ### fnCloneBytes -/
/-- What lies in the clone when k bytes have been copied. -/
def copied (l : List UInt8) (k : Nat) : List Value := (List.range l.length).map fun j => if j < k then .int .u8 ((l.getD j 0).toNat : Int) else .int .u8 0

theorem copied_zero (l : List UInt8) : copied l 0 = List.replicate l.length (.int .u8 0) := by
  apply List.ext_getElem <;> simp [copied]
theorem copied_at (l : List UInt8) (k : Nat) (h : k < l.length) : (copied l k)[k]? = some (.int .u8 0) := by
  simp [copied, h]
theorem copied_set (l : List UInt8) (k : Nat) (h : k < l.length) : (copied l k).set k (.int .u8 ((l.getD k 0).toNat : Int)) = copied l (k + 1) := by
  apply List.ext_getElem
  · simp [copied]
  · intro i h1 h2
    have hi : i < l.length := by simpa [copied] using h2
    by_cases e : i = k
    · subst e; simp [copied]
    · rw [List.getElem_set_ne (by omega)]
      simp only [copied, List.getElem_map, List.getElem_range]
      by_cases h3 : i < k
      · rw [if_pos h3, if_pos (by omega)]
      · rw [if_neg h3, if_neg (by omega)]
theorem copied_all (l : List UInt8) : copied l l.length = cellsB l := by
  apply List.ext_getElem
  · simp [copied, cellsB]
  · intro i h1 h2
    have hi : i < l.length := by simpa [copied] using h1
    simp [copied, cellsB, hi, List.getD_eq_getElem?_getD]

def Cloned (l : List UInt8) (w : World) (e : Ending) (w' : World) : Prop := ∃ v, e = .returned v ∧ OwnB w.heap.size w' v l ∧ Below w.heap.size w w'

set_option maxHeartbeats 1000000 in
theorem clone_any (a : Option Addr) (c : Nat) (l : List UInt8) (w : World) (hn : l.length ≤ 1048576) (hR : Row w a l) :
    Calls Try.prog 11 #[.slice a l.length c] w (Cloned l w) := by
  have q28 : ∀ (w : World) (a : Option Addr) (n c n' c' : Nat), (binOp .eql 28 (.slice a n c) (.slice none n' c')).run Try.prog w = .ok (.bool a.isNone) w := fun w a n c n' c' => Lib.run_eql_slice_nil w _ _ a n c n' c' Try.underlying28
  have HR := hid hR
  clear hR
  cases a with
  | none =>
    have h0 : l = [] := by
      rcases HR.out with h | ⟨b, off, e, _⟩
      · exact h
      · cases e
    subst h0
    go_enter Try.func11, Try.ntmps11
    go_wp2
    go_ret
    exact ⟨_, rfl, World.ownsRow_nil _ _ _ _, Below.refl _ _⟩
  | some ad =>
    obtain ⟨i0, hi, hz0, hz1, hz2⟩ := info_parts info5
    go_enter Try.func11, Try.ntmps11
    go_wp2_with (at_make; refine wpList_make_full _ rfl (.tmp 8) (.tmp 8) 28 rfl w.heap.size 5 i0 (.int .u8 0) 1 Try.underlying28 hi hz0 hz1 .i64 .i64 _ _ l.length rfl rfl rfl rfl (by rw [hz2]; omega) (by unfold maxLen; omega) (Nat.le_refl _) ?_; intro w1 hown hgrow)
    have hb1 : Below w.heap.size w w1 := (Below.refl _ _).grown hgrow (Nat.le_refl _) (fun k hk => by cases hk)
    have hown0 : w1.ownsRow w.heap.size 5 1 (.slice (some ⟨w.heap.size, 0, none⟩) l.length l.length) l.length (copied l 0) := by
      rw [copied_zero]
      have e : (madeCells (Value.int .u8 0).cells (l.length * 1)).toList = List.replicate l.length (Value.int .u8 0) := by
        rw [Nat.mul_one]; exact toList_madeCells_one _ _
      rw [e] at hown
      exact hown
    clear hown hgrow q28
    go_loopw [4] (fun i wr => ∃ k : Nat, k ≤ l.length ∧ i = .int .i64 k ∧ wr.ownsRow w.heap.size 5 1 (.slice (some ⟨w.heap.size, 0, none⟩) l.length l.length) l.length (copied l k) ∧ Below w.heap.size w wr) (fun i _ => l.length - (intOf i).toNat)
    case atStart => exact ⟨0, Nat.zero_le _, rfl, hown0, hb1⟩
    case round =>
      obtain ⟨k, hk, rfl, hown, hbel⟩ := hrel
      clear hown0 hb1
      by_cases hlt : k < l.length
      · obtain ⟨b, off, e, hcell0⟩ := HR.out.at hlt
        cases e
        have hcell : wr.cell? ⟨b, off + k, none⟩ = some (.int .u8 ((l.getD k 0).toNat : Int)) := (hbel.cell (lt_of_cell hcell0)).trans hcell0
        have hold : wr.cell? ⟨w.heap.size, k, none⟩ = some (.int .u8 0) := (hown.cellAt k (by omega)).trans (copied_at l k hlt)
        have hfr : wr.frozen? ⟨w.heap.size, k, none⟩ = false := hown.frozenAt k
        have X : Hid ((wr.setCell ⟨w.heap.size, k, none⟩ (.int .u8 ((l.getD k 0).toNat : Int))).ownsRow w.heap.size 5 1 (.slice (some ⟨w.heap.size, 0, none⟩) l.length l.length) l.length (copied l (k + 1)) ∧ Below w.heap.size w (wr.setCell ⟨w.heap.size, k, none⟩ (.int .u8 ((l.getD k 0).toNat : Int)))) := by
          have h := (hown.stored k (.int .u8 ((l.getD k 0).toNat : Int))).1
          rw [copied_set l k hlt] at h
          exact ⟨h, hbel.setCell (Nat.le_refl _) _⟩
        clear hown hbel hcell0
        generalize ((l.getD k 0).toNat : Int) = z at hcell X
        go_wp2
        go_roundw
        case rel => exact ⟨k + 1, by omega, by go_num, X.out.1, X.out.2⟩
        case measure => simp [intOf]; omega
      · obtain rfl : k = l.length := by omega
        have X : Hid (OwnB w.heap.size wr (.slice (some ⟨w.heap.size, 0, none⟩) l.length l.length) l ∧ Below w.heap.size w wr) := by
          refine ⟨?_, hbel⟩
          unfold OwnB
          rw [← copied_all]
          exact hown
        clear hown hbel
        go_wp2
        go_ret
        exact ⟨_, rfl, X.out.1, X.out.2⟩

/-! ### append(row, string...) with room -/
theorem take_set_succ {α : Type} (v : α) : ∀ (L : List α) (o : Nat), o < L.length → (L.set o v).take (o + 1) = L.take o ++ [v]
  | [], o, h => by simp at h
  | a :: L, 0, _ => by simp
  | a :: L, o + 1, h => by
    have := take_set_succ v L o (by simpa using h)
    simp [this]

theorem drop_set_succ {α : Type} (v : α) (L : List α) (o n : Nat) : (L.set o v).drop (o + 1 + n) = L.drop (o + 1 + n) := by
  apply List.ext_getElem?
  intro i
  rw [List.getElem?_drop, List.getElem?_drop, List.getElem?_set_ne (by omega)]

theorem heap_setCells {g : Nat} {e : TypeId} : ∀ (vs : List Value) (o : Nat) (w : World) (cur : Array Value), w.heap[g]? = some (.cells cur e (0, 0)) → o + vs.length ≤ cur.size →
    (w.setCells g o vs).heap[g]? = some (.cells (cur.toList.take o ++ vs ++ cur.toList.drop (o + vs.length)).toArray e (0, 0))
  | [], o, w, cur, h, _ => by
    rw [World.setCells, h]
    simp
  | v :: r, o, w, cur, h, hl => by
    have hl' : o + (r.length + 1) ≤ cur.size := by simpa using hl
    rw [World.setCells, heap_setCells r (o + 1) _ (cur.setIfInBounds o v) (heap_setCell_same w g o cur e v h) (by simp; omega)]
    congr 3
    rw [Array.toList_setIfInBounds, take_set_succ _ _ _ (by simp; omega), drop_set_succ, List.length_cons, show o + 1 + r.length = o + (r.length + 1) by omega]
    simp

theorem heap_setCells_other {g : Nat} : ∀ (vs : List Value) (o : Nat) (w : World) (k : Nat), k ≠ g → (w.setCells g o vs).heap[k]? = w.heap[k]?
  | [], _, _, _, _ => rfl
  | v :: r, o, w, k, h => by
    rw [World.setCells, heap_setCells_other r _ _ k h]
    exact heap_setCell_other w ⟨g, o, none⟩ k v h

theorem setCells_same (g : Nat) : ∀ (vs : List Value) (o : Nat) (w : World), (w.setCells g o vs).os = w.os ∧ (w.setCells g o vs).tape = w.tape ∧ (w.setCells g o vs).output = w.output ∧ (w.setCells g o vs).heap.size = w.heap.size
  | [], _, _ => ⟨rfl, rfl, rfl, rfl⟩
  | v :: r, o, w => by
    have h := setCells_same g r (o + 1) (w.setCell ⟨g, o, none⟩ v)
    rw [World.setCells]
    exact ⟨h.1, h.2.1, h.2.2.1, by rw [h.2.2.2]; simp [World.setCell]⟩

/-- append(row, s...), within the capacity. -/
theorem run_append_string (w : World) (B g k cap : Nat) (l : List UInt8) (hk : k = l.length) (hown : w.ownsRow B 5 1 (.slice (some ⟨g, 0, none⟩) k cap) k (cellsB l)) (s : ByteArray) (hroom : k + s.size ≤ cap) (ty : TypeId) :
    ∃ w', (Builtin.append_ #[28, 9] ty #[.slice (some ⟨g, 0, none⟩) k cap, .string s]).run Try.prog w = .ok (.slice (some ⟨g, 0, none⟩) (k + s.size) cap) w' ∧
      w'.ownsRow B 5 1 (.slice (some ⟨g, 0, none⟩) (k + s.size) cap) (k + s.size) (cellsB (l ++ s.data.toList)) ∧ w.grownBy w' (some g) := by
  obtain ⟨i0, hi, hz0, hz1, hz2⟩ := info_parts info5
  have hsrc := Src.ofString (P := Try.prog) w Try.underlying9 s
  rcases hown.2 with ⟨h, _⟩ | ⟨g', cap', cur, h, hbg, hg, hnc, hcm, hcs, htake⟩
  · cases h
  cases h
  rw [Nat.mul_one] at hcs htake
  have hcell : ∀ j, j < (byteCells s).length → (w.cell? ⟨g, 0 + k * i0.size + j, none⟩).isSome = true := by
    intro j hj
    rw [byteCells_length] at hj
    rw [hz1, cell_of_row w g _ cur 5 (0, 0) hg, Array.getElem?_eq_getElem (by omega)]
    rfl
  have hfr : ∀ j, j < (byteCells s).length → w.frozen? ⟨g, 0 + k * i0.size + j, none⟩ = false := fun j _ => frozen_of_row w g _ cur 5 hg
  rw [← hz1] at hsrc
  have hr := run_append_room_src (P := Try.prog) w 28 9 ty 5 i0 Try.underlying28 hi g 0 k cap (.string s) s.size (byteCells s) hsrc hroom hcell hfr
  rw [hz1, Nat.mul_one, Nat.zero_add] at hr
  refine ⟨_, hr, ?_, ?_⟩
  · have hfit : k + (byteCells s).length ≤ cur.size := by rw [byteCells_length]; omega
    refine ⟨by rw [cellsB_length, List.length_append, hk]; simp, Or.inr ⟨g, cap, _, rfl, hbg, heap_setCells (byteCells s) k w cur hg hfit, hroom, hcm, ?_, ?_⟩⟩
    · simp
      rw [byteCells_length]
      omega
    · rw [Nat.mul_one]
      have e : cellsB (l ++ s.data.toList) = cur.toList.take k ++ byteCells s := by
        rw [cellsB_append, htake]
        rfl
      rw [e]
      have hl : (cur.toList.take k ++ byteCells s).length = k + s.size := by
        rw [List.length_append, byteCells_length, List.length_take, Array.length_toList]
        omega
      rw [← hl]
      exact List.take_left
  · have h := setCells_same g (byteCells s) k w
    exact ⟨h.1, h.2.1, h.2.2.1, Nat.le_of_eq h.2.2.2.symm, fun j _ hj => heap_setCells_other _ _ _ j (fun e => hj (by rw [e]))⟩

theorem wpList_append_string (w : World) {ops : Array Oper} {rest : List Oper} {o : Oper} {a : Act} {Q : Exit → Act → World → Prop}
    (hg : o.guard = none) (s x : Operand) (hop : o.op = Op.call { callee := Callee.builtin Builtin.append, args := #[s, x], argTypes := #[28, 9] })
    (B g k cap : Nat) (l : List UInt8) (hk : k = l.length) (hs : a.eval s = .slice (some ⟨g, 0, none⟩) k cap) (hown : w.ownsRow B 5 1 (.slice (some ⟨g, 0, none⟩) k cap) k (cellsB l)) (st : ByteArray) (hx : a.eval x = .string st) (hroom : k + st.size ≤ cap)
    (hK : ∀ w', w'.ownsRow B 5 1 (.slice (some ⟨g, 0, none⟩) (k + st.size) cap) (k + st.size) (cellsB (l ++ st.data.toList)) → w.grownBy w' (some g) → wpList Try.prog ops Q rest (a.put o.dst (.slice (some ⟨g, 0, none⟩) (k + st.size) cap)) w') :
    wpList Try.prog ops Q (o :: rest) a w := by
  refine wpList_plain hg fun K hK' => ?_
  obtain ⟨w', hrun, r1, r2⟩ := run_append_string w B g k cap l hk hown st hroom o.type
  unfold Oper.wp
  simp [execOp, hop, resolve, invoke, builtin, hs, hx, hrun, Result.andThen]
  exact hK' _ _ (hK w' r1 r2)
end Go.Proofs.Qxb6600207a
