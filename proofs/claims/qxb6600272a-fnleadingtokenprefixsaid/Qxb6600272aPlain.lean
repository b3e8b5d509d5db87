/-
  THE PLAIN LAWS: token characters, and the cut of a string at its first byte that is none.
-/
import Derived.Shelf.GgClosure.StringsIndexFunc
import Derived.Laws.RangeAny
import Derived.Lib.TrimU
namespace Go.Proofs.Qxb6600272a

/-- The marks among the token characters. -/
def marks : List Nat := [33, 35, 36, 37, 38, 39, 42, 43, 45, 46, 94, 95, 96, 124, 126]
/-- A token character. -/
def tchN (n : Nat) : Bool := (decide (97 ≤ n) && decide (n ≤ 122)) || (decide (65 ≤ n) && decide (n ≤ 90)) || (decide (48 ≤ n) && decide (n ≤ 57)) || marks.contains n
def pR (n : Nat) : Bool := !tchN n
def tch (b : UInt8) : Bool := tchN b.toNat

theorem marks_lt : ∀ n ∈ marks, n < 128 := by decide
theorem tchN_high (n : Nat) (h : 128 ≤ n) : tchN n = false := by
  have hm : marks.contains n = false := by
    cases hc : marks.contains n with
    | false => rfl
    | true => exact absurd (marks_lt n (List.contains_iff_mem.1 hc)) (by omega)
  have h1 : decide (n ≤ 122) = false := decide_eq_false (by omega)
  have h2 : decide (n ≤ 90) = false := decide_eq_false (by omega)
  have h3 : decide (n ≤ 57) = false := decide_eq_false (by omega)
  simp only [tchN, hm, h1, h2, h3, Bool.and_false, Bool.or_false]

/-- How many bytes the leading token has. -/
def lead (l : List UInt8) : Nat := (l.takeWhile tch).length
theorem lead_le (l : List UInt8) : lead l ≤ l.length := (List.takeWhile_prefix tch).length_le

theorem drop_at (s : ByteArray) (pos : Nat) (h : pos < s.size) : s.data.toList.drop pos = s[pos]'h :: s.data.toList.drop (pos + 1) := by
  have h' : pos < s.data.toList.length := by simpa using h
  rw [List.drop_eq_getElem_cons h']
  rfl

theorem idx_from (s : ByteArray) : ∀ (f pos : Nat), s.size ≤ pos + f →
    Lib.idxFuncFrom pR true s f pos = if pos + lead (s.data.toList.drop pos) < s.size then ((pos + lead (s.data.toList.drop pos) : Nat) : Int) else -1
  | 0, pos, h => by
    rw [if_neg (by omega)]
    rfl
  | f + 1, pos, h => by
    unfold Lib.idxFuncFrom
    by_cases hp : pos < s.size
    · rw [if_pos hp, drop_at s pos hp]
      by_cases ha : (s[pos]'hp).toNat < 128
      · rw [decode_ascii s pos hp ha]
        cases ht : tch (s[pos]'hp) with
        | true =>
          have e : pR (s[pos]'hp).toNat = false := by show (!tch _) = false; rw [ht]; rfl
          have el : lead (s[pos]'hp :: s.data.toList.drop (pos + 1)) = lead (s.data.toList.drop (pos + 1)) + 1 := by simp [lead, ht]
          rw [if_neg (by simp [e]), idx_from s f (pos + 1) (by omega), el]
          have : pos + 1 + lead (s.data.toList.drop (pos + 1)) = pos + (lead (s.data.toList.drop (pos + 1)) + 1) := by omega
          rw [this]
        | false =>
          have e : pR (s[pos]'hp).toNat = true := by show (!tch _) = true; rw [ht]; rfl
          have el : lead (s[pos]'hp :: s.data.toList.drop (pos + 1)) = 0 := by simp [lead, ht]
          rw [if_pos (by simp [e]), el, Nat.add_zero, if_pos hp]
      · have hd := (decode_high s pos hp (by omega)).1
        have e : pR (Utf8.decode s pos).1 = true := by unfold pR; rw [tchN_high _ hd]; rfl
        have ht : tch (s[pos]'hp) = false := tchN_high _ (by omega)
        have el : lead (s[pos]'hp :: s.data.toList.drop (pos + 1)) = 0 := by simp [lead, ht]
        rw [if_pos e, el, Nat.add_zero, if_pos hp]
    · rw [if_neg hp, if_neg (by omega)]

theorem idx_all (s : ByteArray) : Lib.idxFunc pR true s = if lead s.data.toList < s.size then (lead s.data.toList : Int) else -1 := by
  unfold Lib.idxFunc
  rw [idx_from s s.size 0 (by omega), List.drop_zero, Nat.zero_add]

/-- The token, and what is behind it. -/
def tok (s : ByteArray) : ByteArray := ⟨(s.data.toList.takeWhile tch).toArray⟩
def rest (s : ByteArray) : ByteArray := ⟨(s.data.toList.dropWhile tch).toArray⟩

theorem ba_ext {a b : ByteArray} (h : a.data.toList = b.data.toList) : a = b := by
  cases a; cases b; congr; exact Array.toList_inj.1 h

theorem take_lead : ∀ l : List UInt8, l.take (lead l) = l.takeWhile tch
  | [] => rfl
  | a :: l => by
    cases h : tch a with
    | true => simp only [lead, List.takeWhile_cons, h, if_true, List.length_cons, List.take_succ_cons]; rw [← lead, take_lead l]
    | false => simp [lead, h]
theorem drop_lead : ∀ l : List UInt8, l.drop (lead l) = l.dropWhile tch
  | [] => rfl
  | a :: l => by
    cases h : tch a with
    | true => simp only [lead, List.takeWhile_cons, List.dropWhile_cons, h, if_true, List.length_cons, List.drop_succ_cons]; rw [← lead, drop_lead l]
    | false => simp [lead, h]

theorem tok_cut (s : ByteArray) : s.extract 0 (lead s.data.toList) = tok s := by
  apply ba_ext
  simp only [tok, ByteArray.data_extract, Array.toList_extract]
  rw [← take_lead]
  simp [List.extract]
theorem rest_cut (s : ByteArray) : s.extract (lead s.data.toList) s.size = rest s := by
  apply ba_ext
  simp only [rest, ByteArray.data_extract, Array.toList_extract]
  rw [← drop_lead]
  rw [List.extract, List.take_of_length_le (by simp)]
theorem tok_whole (s : ByteArray) (h : ¬ lead s.data.toList < s.size) : tok s = s := by
  apply ba_ext
  show s.data.toList.takeWhile tch = _
  rw [← take_lead, List.take_of_length_le (by have : s.data.toList.length = s.size := by simp
                                              omega)]
theorem rest_whole (s : ByteArray) (h : ¬ lead s.data.toList < s.size) : rest s = ⟨#[]⟩ := by
  apply ba_ext
  show s.data.toList.dropWhile tch = _
  rw [← drop_lead, List.drop_of_length_le (by have : s.data.toList.length = s.size := by simp
                                              omega)]

/-! ### Maximal -/
theorem tok_rest (s : ByteArray) : tok s ++ rest s = s := by
  apply ba_ext
  rw [ByteArray.data_append, Array.toList_append]
  exact List.takeWhile_append_dropWhile
theorem mem_run : ∀ (l : List UInt8), ∀ b ∈ l.takeWhile tch, tch b = true
  | [], b, h => by cases h
  | a :: l, b, h => by
    cases ha : tch a with
    | true =>
      rw [List.takeWhile_cons, if_pos ha] at h
      rcases List.mem_cons.1 h with rfl | h
      · exact ha
      · exact mem_run l b h
    | false => simp [ha] at h
theorem tok_all (s : ByteArray) : ∀ b ∈ (tok s).data.toList, tch b = true := mem_run _
theorem takeWhile_all : ∀ {l : List UInt8}, (∀ b ∈ l, tch b = true) → l.takeWhile tch = l
  | [], _ => rfl
  | a :: l, h => by rw [List.takeWhile_cons, if_pos (h a (by simp)), takeWhile_all fun b hb => h b (by simp [hb])]
theorem dropWhile_all : ∀ {l : List UInt8}, (∀ b ∈ l, tch b = true) → l.dropWhile tch = []
  | [], _ => rfl
  | a :: l, h => by rw [List.dropWhile_cons, if_pos (h a (by simp)), dropWhile_all fun b hb => h b (by simp [hb])]
theorem dropWhile_stops : ∀ (l : List UInt8), (l.dropWhile tch).takeWhile tch = [] ∧ (l.dropWhile tch).dropWhile tch = l.dropWhile tch
  | [] => ⟨rfl, rfl⟩
  | a :: l => by
    cases h : tch a with
    | true => simpa [List.dropWhile_cons, h] using dropWhile_stops l
    | false => simp [h]
theorem tok_tok (s : ByteArray) : tok (tok s) = tok s := ba_ext (takeWhile_all (tok_all s))
theorem rest_tok (s : ByteArray) : rest (tok s) = ⟨#[]⟩ := ba_ext (dropWhile_all (tok_all s))
theorem tok_rest_none (s : ByteArray) : tok (rest s) = ⟨#[]⟩ := ba_ext (dropWhile_stops _).1
theorem rest_rest (s : ByteArray) : rest (rest s) = rest s := ba_ext (dropWhile_stops _).2

/-! ### a token laid ahead -/
def allT (s : ByteArray) : Bool := s.data.toList.all tch
theorem takeWhile_ahead : ∀ {t : List UInt8} (s : List UInt8), t.all tch = true → (t ++ s).takeWhile tch = t ++ s.takeWhile tch ∧ (t ++ s).dropWhile tch = s.dropWhile tch
  | [], s, _ => ⟨rfl, rfl⟩
  | a :: t, s, h => by
    rw [List.all_cons, Bool.and_eq_true] at h
    have ih := takeWhile_ahead (t := t) s h.2
    simp [h.1, ih.1, ih.2]
theorem tok_ahead (t s : ByteArray) (h : allT t = true) : tok (t ++ s) = t ++ tok s := by
  apply ba_ext
  simp only [tok, ByteArray.data_append, Array.toList_append]
  exact (takeWhile_ahead _ h).1
theorem rest_ahead (t s : ByteArray) (h : allT t = true) : rest (t ++ s) = rest s := by
  apply ba_ext
  simp only [rest, ByteArray.data_append, Array.toList_append]
  exact (takeWhile_ahead _ h).2
end Go.Proofs.Qxb6600272a
