/-
  leadingToken: the closure, strings.IndexFunc over it, the cut.
-/
import Derived.Test.Qxb6600272aRuneB
namespace Go.Proofs.Qxb6600272a
open Go.RowKit Go.Shelf
set_option linter.unusedVariables false

theorem ret_bool {a b : Bool} {w w' : World} (h : a = b) (hb : Below w.heap.size w w') : HasMark w b (.returned (.bool a)) w' := ⟨by rw [h], hb⟩

theorem pR_az {x : Nat} (h0 : 97 ≤ x) (h1 : x ≤ 122) : pR x = false := by
  unfold pR tchN
  rw [decide_eq_true h0, decide_eq_true h1]; rfl
theorem pR_AZ {x : Nat} (h0 : 65 ≤ x) (h1 : x ≤ 90) : pR x = false := by
  unfold pR tchN
  rw [decide_eq_true h0, decide_eq_true h1]; simp
theorem pR_09 {x : Nat} (h0 : 48 ≤ x) (h1 : x ≤ 57) : pR x = false := by
  unfold pR tchN
  rw [decide_eq_true h0, decide_eq_true h1]; simp
theorem pR_else {x : Nat} (h0 : ¬ (97 ≤ x ∧ x ≤ 122)) (h1 : ¬ (65 ≤ x ∧ x ≤ 90)) (h2 : ¬ (48 ≤ x ∧ x ≤ 57)) : (!marks.contains x) = pR x := by
  unfold pR tchN
  rw [← Bool.decide_and, ← Bool.decide_and, ← Bool.decide_and, decide_eq_false h0, decide_eq_false h1, decide_eq_false h2]
  rfl

set_option maxHeartbeats 2000000 in
theorem pred_else (x : Nat) (b : Bool) (w : World) (hc : Hid (Calls Try.prog 13 #[.string mk, .int .i32 (x : Int)] w fun e w' => HasMark w b e w'))
    (hx : x < 48 ∨ (57 < x ∧ x < 65) ∨ (90 < x ∧ x < 97) ∨ 122 < x) :
    Calls Try.prog 12 #[.int .i32 (x : Int)] w fun e w' => HasMark w (!b) e w' := by
  rcases hx with h | ⟨h, h'⟩ | ⟨h, h'⟩ | h
  all_goals
    go_enter Try.func12, Try.ntmps12
    go_wp2_with fail
    refine hc.out.mono ?_
    rintro e w' ⟨rfl, hb⟩
    go_wp2
    go_ret
    first
      | exact ret_bool rfl hb
      | exact ret_bool (by rw [decide_eq_false (show ¬ ((x : Int) ≤ 57) by omega)]; rfl) hb
      | exact ret_bool (by rw [decide_eq_false (show ¬ ((x : Int) ≤ 90) by omega), decide_eq_false (show ¬ ((x : Int) ≤ 57) by omega)]; rfl) hb
      | exact ret_bool (by rw [decide_eq_false (show ¬ ((x : Int) ≤ 122) by omega), decide_eq_false (show ¬ ((x : Int) ≤ 90) by omega), decide_eq_false (show ¬ ((x : Int) ≤ 57) by omega)]; rfl) hb

set_option maxHeartbeats 2000000 in
theorem pred_in (x : Nat) (w : World) (hx : (97 ≤ x ∧ x ≤ 122) ∨ (65 ≤ x ∧ x ≤ 90) ∨ (48 ≤ x ∧ x ≤ 57)) :
    Calls Try.prog 12 #[.int .i32 (x : Int)] w fun e w' => HasMark w false e w' := by
  rcases hx with ⟨h, h'⟩ | ⟨h, h'⟩ | ⟨h, h'⟩
  all_goals
    go_enter Try.func12, Try.ntmps12
    go_wp2
    go_ret
    exact ⟨rfl, Below.refl _ _⟩

theorem pred (x : Nat) (w : World) (h1 : x ≤ 1114111) : Calls Try.prog 12 #[.int .i32 (x : Int)] w fun e w' => HasMark w (pR x) e w' := by
  by_cases h : (97 ≤ x ∧ x ≤ 122) ∨ (65 ≤ x ∧ x ≤ 90) ∨ (48 ≤ x ∧ x ≤ 57)
  · have e : pR x = false := by
      rcases h with ⟨h, h'⟩ | ⟨h, h'⟩ | ⟨h, h'⟩
      · exact pR_az h h'
      · exact pR_AZ h h'
      · exact pR_09 h h'
    rw [e]
    exact pred_in x w h
  · rw [← pR_else (by omega) (by omega) (by omega)]
    exact pred_else x _ w (hid (has_mark x w h1)) (by omega)

theorem enters12 : ∀ args w, (callFunc 12 args).run Try.prog w = .ok (.enter 12 args) w := enters_of Try.func12 (by kernel_rfl) rfl

theorem pred_grows (w : World) : PredGrows Try.prog 12 #[] pR w := fun W x hx _ => pred x W hx

/-- WHAT THE CUT ANSWERS: the token and the rest. -/
def Cut2 (w : World) (a b : ByteArray) (e : Ending) (w' : World) : Prop := e = .returned (.tuple #[.string a, .string b]) ∧ Below w.heap.size w w'

set_option maxHeartbeats 2000000 in
theorem lead_some (s : ByteArray) (k : Nat) (w : World) (hc : Hid (Calls Try.prog 11 #[.string s, .func (.func 12) #[] #[]] w fun e w' => e = .returned (.int .i64 (k : Int)) ∧ Below w.heap.size w w')) (hk : k ≤ s.size) :
    Calls Try.prog 10 #[.string s] w fun e w' => Cut2 w (s.extract 0 k) (s.extract k s.size) e w' := by
  go_enter Try.func10, Try.ntmps10
  go_wp2_with fail
  refine hc.out.mono ?_
  rintro e w' ⟨rfl, hb⟩
  have hk' : (k : Int) ≤ (s.size : Int) := by omega
  go_wp2
  go_quiet (fail)
  go_wp2
  go_ret2
  exact ⟨rfl, hb.trans ((below_drewNg w' nq).mono hb.size)⟩

set_option maxHeartbeats 2000000 in
theorem lead_none (s : ByteArray) (w : World) (hc : Hid (Calls Try.prog 11 #[.string s, .func (.func 12) #[] #[]] w fun e w' => e = .returned (.int .i64 (-1)) ∧ Below w.heap.size w w')) :
    Calls Try.prog 10 #[.string s] w fun e w' => Cut2 w s ⟨#[]⟩ e w' := by
  go_enter Try.func10, Try.ntmps10
  go_wp2_with fail
  refine hc.out.mono ?_
  rintro e w' ⟨rfl, hb⟩
  go_wp2
  go_ret2
  exact ⟨rfl, hb⟩

theorem leadTok (s : ByteArray) (w : World) : Calls Try.prog 10 #[.string s] w fun e w' => Cut2 w (tok s) (rest s) e w' := by
  have h := Try.strings_IndexFunc_grows 12 #[] enters12 pR s w (pred_grows w)
  rw [idx_all] at h
  by_cases hl : lead s.data.toList < s.size
  · rw [if_pos hl] at h
    have := lead_some s _ w (hid h) (by omega)
    rw [tok_cut, rest_cut] at this
    exact this
  · rw [if_neg hl] at h
    rw [tok_whole s hl, rest_whole s hl]
    exact lead_none s w (hid h)

set_option maxHeartbeats 2000000 in
theorem zlead (s : ByteArray) (w : World) : Calls Try.prog 7 #[.string s] w fun e w' => Cut2 w (tok s) (rest s) e w' := by
  have H := hid (leadTok s w)
  go_enter Try.func7, Try.ntmps7
  go_wp2_with fail
  refine H.out.mono ?_
  rintro e w' ⟨rfl, hb⟩
  go_wp2
  go_ret2
  exact ⟨rfl, hb⟩
end Go.Proofs.Qxb6600272a
