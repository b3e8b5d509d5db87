/-
  THE WALK of FnLeadingTokenPrefix.
-/
import Derived.Test.Qxb6600272aTch
namespace Go.Proofs.Qxb6600272a
open Go.RowKit Go.Shelf
set_option linter.unusedVariables false

theorem belowHop {w w' w'' : World} (h : Below w.heap.size w w') (h' : Below w'.heap.size w' w'') : Below w.heap.size w w'' := h.trans (h'.mono h.size)

set_option maxHeartbeats 2000000 in
theorem walkPre (t s : ByteArray) (ht : t.size ≤ maxLen) (hs : s.size ≤ maxLen) (w : World) :
    Calls Try.prog 3 #[.string t, .string s] w fun e w' => HasMark w true e w' := by
  by_cases h1 : t.size + s.size ≤ 1048576
  · have HS := hid (small5 t s true w hs ht (decide_eq_true h1).symm)
    have HT := hid (allT_walk t w ht)
    unfold maxLen at ht hs
    by_cases h2 : 65536 < t.size
    · go_enter Try.func3, Try.ntmps3
      go_wp2_with (go_at_call 5; refine HS.out.mono ?_; rintro e w' ⟨rfl, hw⟩; obtain rfl := hw.symm)
      go_ret
      exact ⟨rfl, Below.refl _ _⟩
    by_cases h3 : 65536 < s.size
    · go_enter Try.func3, Try.ntmps3
      go_wp2_with (go_at_call 5; refine HS.out.mono ?_; rintro e w' ⟨rfl, hw⟩; obtain rfl := hw.symm)
      go_ret
      exact ⟨rfl, Below.refl _ _⟩
    cases ha : allT t with
    | false =>
      rw [ha] at HT
      clear ha
      go_enter Try.func3, Try.ntmps3
      go_wp2_with (first | (go_at_call 5; refine HS.out.mono ?_; rintro e w' ⟨rfl, hw⟩; obtain rfl := hw.symm) | (go_at_call 6; refine HT.out.mono ?_; rintro e w' ⟨rfl, hw⟩; obtain rfl := hw.symm))
      go_ret
      exact ⟨rfl, Below.refl _ _⟩
    | true =>
      rw [ha] at HT
      have H0 := hid (fun W => zlead s W)
      have H1 := hid (fun W => zlead (t ++ s) W)
      rw [tok_ahead t s ha, rest_ahead t s ha] at H1
      have hz : (tok s).size ≤ s.size := by
        have := congrArg ByteArray.size (tok_rest s)
        rw [ByteArray.size_append] at this
        omega
      clear ha
      generalize tok s = A at H0 H1 hz
      generalize rest s = B at H0 H1
      go_enter Try.func3, Try.ntmps3
      go_wp2_with (first | (go_at_call 5; refine HS.out.mono ?_; rintro e w' ⟨rfl, hw⟩; obtain rfl := hw.symm) | (go_at_call 6; refine HT.out.mono ?_; rintro e w' ⟨rfl, hw⟩; obtain rfl := hw.symm))
      refine (H0.out w).mono ?_
      rintro e w1 ⟨rfl, hb1⟩
      go_wp2_with fail
      refine (H1.out w1).mono ?_
      rintro e w2 ⟨rfl, hb2⟩
      go_wp2
      go_ret
      exact ⟨rfl, belowHop hb1 hb2⟩
  · have HS := hid (small5 t s false w hs ht (decide_eq_false h1).symm)
    unfold maxLen at ht hs
    go_enter Try.func3, Try.ntmps3
    go_wp2_with (go_at_call 5; refine HS.out.mono ?_; rintro e w' ⟨rfl, hw⟩; obtain rfl := hw.symm)
    go_ret
    exact ⟨rfl, Below.refl _ _⟩
end Go.Proofs.Qxb6600272a
