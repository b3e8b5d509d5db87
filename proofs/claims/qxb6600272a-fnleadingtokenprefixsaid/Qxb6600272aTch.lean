/-
  isTcharB1, allTcharsB1, and the bound of FnLeadingTokenPrefix.
-/
import Derived.Test.Qxb6600272aLead
namespace Go.Proofs.Qxb6600272a
open Go.RowKit Go.Shelf
set_option linter.unusedVariables false

set_option maxHeartbeats 2000000 in
theorem isT_in (x : Nat) (w : World) (hx : (97 ≤ x ∧ x ≤ 122) ∨ (65 ≤ x ∧ x ≤ 90) ∨ (48 ≤ x ∧ x ≤ 57)) :
    Calls Try.prog 9 #[.int .u8 (x : Int)] w fun e w' => e = .returned (.bool true) ∧ w' = w := by
  rcases hx with ⟨h, h'⟩ | ⟨h, h'⟩ | ⟨h, h'⟩
  all_goals
    go_enter Try.func9, Try.ntmps9
    go_wp2
    go_ret
    exact ⟨rfl, rfl⟩

set_option maxHeartbeats 4000000 in
theorem isT_mark (x : Nat) (w : World) (hx : x ∈ marks) :
    Calls Try.prog 9 #[.int .u8 (x : Int)] w fun e w' => e = .returned (.bool true) ∧ w' = w := by
  unfold marks at hx
  simp only [List.mem_cons, List.not_mem_nil, or_false] at hx
  rcases hx with rfl | rfl | rfl | rfl | rfl | rfl | rfl | rfl | rfl | rfl | rfl | rfl | rfl | rfl | rfl
  all_goals
    go_enter Try.func9, Try.ntmps9
    go_wp2
    go_ret
    exact ⟨rfl, rfl⟩

set_option maxHeartbeats 4000000 in
theorem isT_no (z : Int) (w : World) (hx : z < 48 ∨ (57 < z ∧ z < 65) ∨ (90 < z ∧ z < 97) ∨ 122 < z)
    (h1 : (z == 33) = false) (h2 : (z == 35) = false) (h3 : (z == 36) = false) (h4 : (z == 37) = false) (h5 : (z == 38) = false) (h6 : (z == 39) = false) (h7 : (z == 42) = false) (h8 : (z == 43) = false) (h9 : (z == 45) = false) (h10 : (z == 46) = false) (h11 : (z == 94) = false) (h12 : (z == 95) = false) (h13 : (z == 96) = false) (h14 : (z == 124) = false) (h15 : (z == 126) = false) :
    Calls Try.prog 9 #[.int .u8 z] w fun e w' => e = .returned (.bool false) ∧ w' = w := by
  rcases hx with h | ⟨h, h'⟩ | ⟨h, h'⟩ | h
  all_goals
    go_enter Try.func9, Try.ntmps9
    go_wp2
    go_ret
    exact ⟨rfl, rfl⟩

theorem no_mark {x m : Nat} (hm : m ∈ marks) (h : marks.contains x = false) : ((x : Int) == (m : Int)) = false := by
  cases hb : ((x : Int) == (m : Int)) with
  | false => rfl
  | true =>
    have e : x = m := by have := eq_of_beq hb; omega
    rw [e, List.contains_iff_mem.2 hm] at h
    cases h

theorem isT (x : Nat) (w : World) : Calls Try.prog 9 #[.int .u8 (x : Int)] w fun e w' => e = .returned (.bool (tchN x)) ∧ w' = w := by
  have hp : tchN x = !pR x := by unfold pR; rw [Bool.not_not]
  by_cases h : (97 ≤ x ∧ x ≤ 122) ∨ (65 ≤ x ∧ x ≤ 90) ∨ (48 ≤ x ∧ x ≤ 57)
  · have e : pR x = false := by
      rcases h with ⟨h, h'⟩ | ⟨h, h'⟩ | ⟨h, h'⟩
      · exact pR_az h h'
      · exact pR_AZ h h'
      · exact pR_09 h h'
    rw [hp, e]
    exact isT_in x w h
  · rw [hp, ← pR_else (by omega) (by omega) (by omega), Bool.not_not]
    cases hc : marks.contains x with
    | true => exact isT_mark x w (List.contains_iff_mem.1 hc)
    | false =>
      exact isT_no x w (by omega) (no_mark (m := 33) (by decide) hc) (no_mark (m := 35) (by decide) hc) (no_mark (m := 36) (by decide) hc) (no_mark (m := 37) (by decide) hc) (no_mark (m := 38) (by decide) hc) (no_mark (m := 39) (by decide) hc) (no_mark (m := 42) (by decide) hc) (no_mark (m := 43) (by decide) hc) (no_mark (m := 45) (by decide) hc) (no_mark (m := 46) (by decide) hc) (no_mark (m := 94) (by decide) hc) (no_mark (m := 95) (by decide) hc) (no_mark (m := 96) (by decide) hc) (no_mark (m := 124) (by decide) hc) (no_mark (m := 126) (by decide) hc)

/-- The first k bytes are token characters. -/
def Pre (s : ByteArray) (k : Nat) : Prop := (s.data.toList.take k).all tch = true
theorem Pre.zero (s : ByteArray) : Pre s 0 := rfl
theorem Pre.next {s : ByteArray} {k : Nat} (h : Pre s k) (hk : k < s.size) (ht : tch (s[k]'hk) = true) : Pre s (k + 1) := by
  have hk' : k < s.data.toList.length := by simpa using hk
  have e : s.data.toList[k]'hk' = s[k]'hk := rfl
  unfold Pre at *
  rw [List.take_succ_eq_append_getElem hk', List.all_append, h, e]
  simp [ht]
theorem Pre.whole {s : ByteArray} {k : Nat} (h : Pre s k) (hk : s.size ≤ k) : allT s = true := by
  unfold Pre at h
  rw [List.take_of_length_le (by simpa using hk)] at h
  exact h
theorem not_all {s : ByteArray} {k : Nat} (hk : k < s.size) (ht : tch (s[k]'hk) = false) : allT s = false := by
  cases ha : allT s with
  | false => rfl
  | true =>
    have := List.all_eq_true.1 ha _ (Array.getElem_mem_toList (xs := s.data) hk)
    rw [show s.data[k] = s[k]'hk from rfl, ht] at this
    cases this

def Says (w : World) (b : Bool) (e : Ending) (w' : World) : Prop := e = .returned (.bool b) ∧ w' = w

set_option maxHeartbeats 2000000 in
theorem allT_walk (s : ByteArray) (w : World) (hs : s.size ≤ maxLen) :
    Calls Try.prog 6 #[.string s] w fun e w' => Says w (allT s) e w' := by
  unfold maxLen at hs
  go_enter Try.func6, Try.ntmps6
  go_wp2
  go_loop [3] (fun i => ∃ k : Nat, k ≤ s.size ∧ i = .int .i64 k ∧ Pre s k) (fun i => s.size - (intOf i).toNat)
  case atStart => exact ⟨0, Nat.zero_le _, rfl, Pre.zero _⟩
  case round =>
    obtain ⟨k, hk, rfl, hp⟩ := hrel
    by_cases hlt : k < s.size
    · have hlt' : (k : Int) < (s.size : Int) := by omega
      have hc := isT (s[k]'hlt).toNat w
      have HX : Hid ((tch (s[k]'hlt) = true → Pre s (k + 1)) ∧ (tch (s[k]'hlt) = false → allT s = false)) := ⟨hp.next hlt, not_all hlt⟩
      obtain ⟨z, hz⟩ : ∃ z : UInt8, ∀ h : k < s.size, (s[k]'h) = z := ⟨s[k]'hlt, fun _ => rfl⟩
      rw [hz hlt] at hc HX
      have HC := hid hc
      clear hc hp
      cases ht : tch z with
      | true =>
        have HP := hid (HX.out.1 ht)
        rw [show tchN z.toNat = true from ht] at HC
        clear HX ht
        go_wp2_with (go_at_call 9; refine HC.out.mono ?_; rintro e w' ⟨rfl, hw⟩; obtain rfl := hw.symm)
        go_round
        case rel => exact ⟨k + 1, by omega, by go_num, HP.out⟩
        case measure => simp [intOf]; omega
      | false =>
        have HP := hid (HX.out.2 ht)
        rw [show tchN z.toNat = false from ht] at HC
        clear HX ht
        go_wp2_with (go_at_call 9; refine HC.out.mono ?_; rintro e w' ⟨rfl, hw⟩; obtain rfl := hw.symm)
        go_ret
        exact ⟨by rw [HP.out]; rfl, rfl⟩
    · have HP := hid (hp.whole (by omega))
      clear hp
      go_wp2
      go_ret
      exact ⟨by rw [HP.out]; rfl, rfl⟩

set_option maxHeartbeats 1000000 in
theorem small5 (t s : ByteArray) (b : Bool) (w : World) (h : s.size ≤ maxLen) (h' : t.size ≤ maxLen) (hb : b = decide (t.size + s.size ≤ 1048576)) :
    Calls Try.prog 5 #[.string t, .string s] w fun e w' => Says w b e w' := by
  unfold maxLen at h h'
  by_cases h2 : 1048576 < t.size
  · obtain rfl : b = false := by rw [hb]; exact decide_eq_false (by omega)
    clear hb
    go_enter Try.func5, Try.ntmps5
    go_wp2
    go_ret
    exact ⟨rfl, rfl⟩
  by_cases h3 : 1048576 < s.size
  · obtain rfl : b = false := by rw [hb]; exact decide_eq_false (by omega)
    clear hb
    go_enter Try.func5, Try.ntmps5
    go_wp2
    go_ret
    exact ⟨rfl, rfl⟩
  by_cases h4 : 1048576 < t.size + s.size
  · obtain rfl : b = false := by rw [hb]; exact decide_eq_false (by omega)
    clear hb
    go_enter Try.func5, Try.ntmps5
    go_wp2
    go_ret
    exact ⟨rfl, rfl⟩
  · obtain rfl : b = true := by rw [hb]; exact decide_eq_true (by omega)
    clear hb
    go_enter Try.func5, Try.ntmps5
    go_wp2
    go_ret
    exact ⟨rfl, rfl⟩
end Go.Proofs.Qxb6600272a
