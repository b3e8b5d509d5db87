/-
  THE WALK of FnLeadingTokenMaximal.
-/
import Derived.Test.Qxb6600272aLead
namespace Go.Proofs.Qxb6600272a
open Go.RowKit Go.Shelf
set_option linter.unusedVariables false

set_option maxHeartbeats 400000 in
theorem small8 (s : ByteArray) (b : Bool) (w : World) (h : s.size ≤ maxLen) (hb : b = decide (s.size ≤ 1048576)) :
    Calls Try.prog 8 #[.string s] w fun e w' => e = .returned (.bool b) ∧ w' = w := by
  unfold maxLen at h
  by_cases h2 : 1048576 < s.size
  · obtain rfl : b = false := by rw [hb]; exact decide_eq_false (by omega)
    clear hb
    go_enter Try.func8, Try.ntmps8
    go_wp2
    go_ret
    exact ⟨rfl, rfl⟩
  · obtain rfl : b = true := by rw [hb]; exact decide_eq_true (by omega)
    clear hb
    go_enter Try.func8, Try.ntmps8
    go_wp2
    go_ret
    exact ⟨rfl, rfl⟩

theorem Below.hop {w w' w'' : World} (h : Below w.heap.size w w') (h' : Below w'.heap.size w' w'') : Below w.heap.size w w'' := h.trans (h'.mono h.size)

set_option maxHeartbeats 2000000 in
theorem walkMax (s : ByteArray) (h : s.size ≤ maxLen) (w : World) :
    Calls Try.prog 4 #[.string s] w fun e w' => HasMark w true e w' := by
  by_cases h1 : s.size ≤ 1048576
  · have HS := hid (small8 s true w h (decide_eq_true h1).symm)
    unfold maxLen at h
    by_cases h2 : 65536 < s.size
    · go_enter Try.func4, Try.ntmps4
      go_wp2_with (go_at_call 8; refine HS.out.mono ?_; rintro e w' ⟨rfl, hw⟩; obtain rfl := hw.symm)
      go_ret
      exact ⟨rfl, Below.refl _ _⟩
    · have H0 := hid (fun W => zlead s W)
      have H1 := hid (fun W => zlead (tok s) W)
      have H2 := hid (fun W => zlead (rest s) W)
      rw [tok_tok, rest_tok] at H1
      rw [tok_rest_none, rest_rest] at H2
      have hj := tok_rest s
      have hz : (tok s).size + (rest s).size = s.size := by rw [← ByteArray.size_append, hj]
      generalize tok s = A at H0 H1 hj hz
      generalize rest s = B at H0 H2 hj hz
      go_enter Try.func4, Try.ntmps4
      go_wp2_with (go_at_call 8; refine HS.out.mono ?_; rintro e w' ⟨rfl, hw⟩; obtain rfl := hw.symm)
      refine (H0.out w).mono ?_
      rintro e w1 ⟨rfl, hb1⟩
      go_wp2_with fail
      refine (H1.out w1).mono ?_
      rintro e w2 ⟨rfl, hb2⟩
      go_wp2_with fail
      refine (H2.out w2).mono ?_
      rintro e w3 ⟨rfl, hb3⟩
      go_wp2
      go_ret
      exact ⟨rfl, Below.hop (Below.hop hb1 hb2) hb3⟩
  · have HS := hid (small8 s false w h (decide_eq_false h1).symm)
    unfold maxLen at h
    go_enter Try.func4, Try.ntmps4
    go_wp2_with (go_at_call 8; refine HS.out.mono ?_; rintro e w' ⟨rfl, hw⟩; obtain rfl := hw.symm)
    go_ret
    exact ⟨rfl, Below.refl _ _⟩
end Go.Proofs.Qxb6600272a
