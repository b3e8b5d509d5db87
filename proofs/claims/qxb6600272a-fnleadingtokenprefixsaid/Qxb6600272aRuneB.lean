/-
  strings.IndexRune at a valid rune beyond ASCII.
-/
import Derived.Test.Qxb6600272aRune
import Derived.WalkMore
import Derived.LoopN
namespace Go.Proofs.Qxb6600272a
open Go.RowKit Go.Shelf
set_option linter.unusedVariables false

theorem noByte : ∀ (l : List UInt8) (c : UInt8), (∀ b ∈ l, b.toNat < 128) → 128 ≤ c.toNat → Lib.indexByte l c = -1
  | [], _, _, _ => rfl
  | a :: l, c, h, hc => by
    have ha := h a (by simp)
    have ne : (a == c) = false := by
      cases hb : a == c with
      | false => rfl
      | true => rw [eq_of_beq hb] at ha; omega
    unfold Lib.indexByte
    rw [ne, noByte l c (fun b hb => h b (by simp [hb])) hc]
    rfl

theorem asc_at {s : ByteArray} (ha : Asc s) {k : Nat} (h : k < s.size) : ∃ z : UInt8, z.toNat < 128 ∧ ∀ h : k < s.size, (s[k]'h) = z :=
  ⟨s[k]'h, ha _ (Array.getElem_mem_toList (xs := s.data) h), fun _ => rfl⟩

theorem ne_high {z b : UInt8} (hz : z.toNat < 128) (hb : 128 ≤ b.toNat) : ((z.toNat : Int) != (b.toNat : Int)) = true := by
  simp; omega

theorem noCut {s : ByteArray} (ha : Asc s) (k : Nat) {b : UInt8} (hb : 128 ≤ b.toNat) (w : World) :
    Calls Try.prog 16 #[.string (s.extract k s.size), .int .u8 (b.toNat : Int)] w fun e w' => e = .returned (.int .i64 (-1)) ∧ w' = w := by
  have h := Try.strings_IndexByte (s.extract k s.size) (b.toNat : Int) w
  rw [Int.toNat_natCast, noByte _ _ (fun x hx => ha x (mem_extract hx)) (by simpa using hb)] at h
  exact h

set_option maxHeartbeats 2000000 in
set_option maxRecDepth 100000 in
theorem rune_two (s : ByteArray) (r : Int) (w : World) (ha : Asc s) (hs : s.size = 15) (h0 : 128 ≤ r) (hne : (r == 65533) = false) (hv : Lib.validRune r = true) (b0 b1 : UInt8) (hr : Utf8.encode r = ⟨#[b0, b1]⟩) (hb : 128 ≤ b1.toNat) :
    Calls Try.prog 15 #[.string s, .int .i32 r] w fun e w' => e = .returned (.int .i64 (-1)) ∧ Below w.heap.size w w' := by
  have hc := Try.utf8_ValidRune r w
  rw [hv] at hc
  have HC := hid hc
  have hcut := fun W => noCut ha 2 hb W
  rw [hs] at hcut
  have HCut := hid hcut
  obtain ⟨z, hz, e1⟩ := asc_at ha (k := 1) (by omega)
  have e2 : ∀ h, ((⟨#[b0, b1]⟩ : ByteArray)[1]'h) = b1 := fun _ => rfl
  have hd := ne_high hz hb
  have hwr : IntKind.i64.wrap 2 = 2 := wrap_small 2 (by omega) (by omega)
  clear hc hv ha hcut hz hb
  go_enter Try.func15, Try.ntmps15
  go_wp2_with (go_at_call 17; refine HC.out.mono ?_; rintro e w' ⟨rfl, hw⟩; obtain rfl := hw.symm)
  go_step3
  go_wp2
  refine wp_loop_rounds 1 ?_
  rw [rounds_succ]
  go_wp2_with fail
  go_step3
  go_wp2_with fail
  go_quiet (fail)
  obtain ⟨W, hW⟩ : ∃ W, w.drewN nq = W := ⟨_, rfl⟩
  have HB := hid (show Below w.heap.size w W from hW ▸ below_drewNg w nq)
  rw [hW]
  clear hW
  go_wp2_with fail
  go_quiet ((go_at_call 16; exact Calls.quiet_of_same (HCut.out _)))
  go_wp2
  rw [Exit.noGoto_ret]
  go_wp2
  rw [Exit.noGoto_ret]
  go_ret
  exact ⟨rfl, HB.out.trans ((below_drewNg W nq).mono HB.out.size)⟩
set_option maxHeartbeats 2000000 in
set_option maxRecDepth 100000 in
theorem rune_three (s : ByteArray) (r : Int) (w : World) (ha : Asc s) (hs : s.size = 15) (h0 : 128 ≤ r) (hne : (r == 65533) = false) (hv : Lib.validRune r = true) (b0 b1 b2 : UInt8) (hr : Utf8.encode r = ⟨#[b0, b1, b2]⟩) (hb : 128 ≤ b2.toNat) :
    Calls Try.prog 15 #[.string s, .int .i32 r] w fun e w' => e = .returned (.int .i64 (-1)) ∧ Below w.heap.size w w' := by
  have hc := Try.utf8_ValidRune r w
  rw [hv] at hc
  have HC := hid hc
  have hcut := fun W => noCut ha 3 hb W
  rw [hs] at hcut
  have HCut := hid hcut
  obtain ⟨z, hz, e1⟩ := asc_at ha (k := 2) (by omega)
  have e2 : ∀ h, ((⟨#[b0, b1, b2]⟩ : ByteArray)[2]'h) = b2 := fun _ => rfl
  have hd := ne_high hz hb
  have hwr : IntKind.i64.wrap 3 = 3 := wrap_small 3 (by omega) (by omega)
  clear hc hv ha hcut hz hb
  go_enter Try.func15, Try.ntmps15
  go_wp2_with (go_at_call 17; refine HC.out.mono ?_; rintro e w' ⟨rfl, hw⟩; obtain rfl := hw.symm)
  go_step3
  go_wp2
  refine wp_loop_rounds 1 ?_
  rw [rounds_succ]
  go_wp2_with fail
  go_step3
  go_wp2_with fail
  go_quiet (fail)
  obtain ⟨W, hW⟩ : ∃ W, w.drewN nq = W := ⟨_, rfl⟩
  have HB := hid (show Below w.heap.size w W from hW ▸ below_drewNg w nq)
  rw [hW]
  clear hW
  go_wp2_with fail
  go_quiet ((go_at_call 16; exact Calls.quiet_of_same (HCut.out _)))
  go_wp2
  rw [Exit.noGoto_ret]
  go_wp2
  rw [Exit.noGoto_ret]
  go_ret
  exact ⟨rfl, HB.out.trans ((below_drewNg W nq).mono HB.out.size)⟩
set_option maxHeartbeats 2000000 in
set_option maxRecDepth 100000 in
theorem rune_four (s : ByteArray) (r : Int) (w : World) (ha : Asc s) (hs : s.size = 15) (h0 : 128 ≤ r) (hne : (r == 65533) = false) (hv : Lib.validRune r = true) (b0 b1 b2 b3 : UInt8) (hr : Utf8.encode r = ⟨#[b0, b1, b2, b3]⟩) (hb : 128 ≤ b3.toNat) :
    Calls Try.prog 15 #[.string s, .int .i32 r] w fun e w' => e = .returned (.int .i64 (-1)) ∧ Below w.heap.size w w' := by
  have hc := Try.utf8_ValidRune r w
  rw [hv] at hc
  have HC := hid hc
  have hcut := fun W => noCut ha 4 hb W
  rw [hs] at hcut
  have HCut := hid hcut
  obtain ⟨z, hz, e1⟩ := asc_at ha (k := 3) (by omega)
  have e2 : ∀ h, ((⟨#[b0, b1, b2, b3]⟩ : ByteArray)[3]'h) = b3 := fun _ => rfl
  have hd := ne_high hz hb
  have hwr : IntKind.i64.wrap 4 = 4 := wrap_small 4 (by omega) (by omega)
  clear hc hv ha hcut hz hb
  go_enter Try.func15, Try.ntmps15
  go_wp2_with (go_at_call 17; refine HC.out.mono ?_; rintro e w' ⟨rfl, hw⟩; obtain rfl := hw.symm)
  go_step3
  go_wp2
  refine wp_loop_rounds 1 ?_
  rw [rounds_succ]
  go_wp2_with fail
  go_step3
  go_wp2_with fail
  go_quiet (fail)
  obtain ⟨W, hW⟩ : ∃ W, w.drewN nq = W := ⟨_, rfl⟩
  have HB := hid (show Below w.heap.size w W from hW ▸ below_drewNg w nq)
  rw [hW]
  clear hW
  go_wp2_with fail
  go_quiet ((go_at_call 16; exact Calls.quiet_of_same (HCut.out _)))
  go_wp2
  rw [Exit.noGoto_ret]
  go_wp2
  rw [Exit.noGoto_ret]
  go_ret
  exact ⟨rfl, HB.out.trans ((below_drewNg W nq).mono HB.out.size)⟩

theorem encode_two (r : Int) (hv : Utf8.valid r = true) (h128 : 128 ≤ r) :
    (∃ b0 b1 : UInt8, Utf8.encode r = ⟨#[b0, b1]⟩ ∧ 128 ≤ b1.toNat) ∨ (∃ b0 b1 b2 : UInt8, Utf8.encode r = ⟨#[b0, b1, b2]⟩ ∧ 128 ≤ b2.toNat) ∨ (∃ b0 b1 b2 b3 : UInt8, Utf8.encode r = ⟨#[b0, b1, b2, b3]⟩ ∧ 128 ≤ b3.toNat) := by
  have hc : ¬ r.toNat < 128 := by omega
  have hl : 128 ≤ (UInt8.ofNat (128 + r.toNat % 64)).toNat := by simp; omega
  unfold Utf8.encode
  simp only [hv, if_true, hc, if_false]
  split
  · exact .inl ⟨_, _, rfl, hl⟩
  · split
    · exact .inr (.inl ⟨_, _, _, rfl, hl⟩)
    · exact .inr (.inr ⟨_, _, _, _, rfl, hl⟩)

theorem rune_high (s : ByteArray) (x : Nat) (w : World) (ha : Asc s) (hs : s.size = 15) (h0 : 128 ≤ x) (h1 : x ≤ 1114111) :
    Calls Try.prog 15 #[.string s, .int .i32 (x : Int)] w fun e w' => e = .returned (.int .i64 (-1)) ∧ Below w.heap.size w w' := by
  by_cases he : x = 65533
  · subst he; exact rune_err s w ha
  have hne : ((x : Int) == 65533) = false := by simp; omega
  by_cases hsur : 55296 ≤ x ∧ x ≤ 57343
  · exact rune_surr s x w (by omega) (by omega)
  have hv : Lib.validRune (x : Int) = true := by
    unfold Lib.validRune
    exact decide_eq_true (by omega)
  have hv2 : Utf8.valid (x : Int) = true := by
    rw [validRune_eq]
    unfold validRune
    exact decide_eq_true (by omega)
  rcases encode_two x hv2 (by omega) with ⟨b0, b1, hr, hb⟩ | ⟨b0, b1, b2, hr, hb⟩ | ⟨b0, b1, b2, b3, hr, hb⟩
  · exact rune_two s x w ha hs (by omega) hne hv b0 b1 hr hb
  · exact rune_three s x w ha hs (by omega) hne hv b0 b1 b2 hr hb
  · exact rune_four s x w ha hs (by omega) hne hv b0 b1 b2 b3 hr hb

/-! ### strings.ContainsRune at the marks -/
def mk : ByteArray := ⟨#[33, 35, 36, 37, 38, 39, 42, 43, 45, 46, 94, 95, 96, 124, 126]⟩
theorem mk_size : mk.size = 15 := rfl
theorem mk_asc : Asc mk := by unfold Asc mk; decide
theorem mk_low : ∀ x : Nat, x < 128 → decide (0 ≤ Lib.indexByte mk.data.toList ((x : Int).toNat.toUInt8)) = marks.contains x := by
  unfold mk
  decide +kernel
theorem marks_high (x : Nat) (h : 128 ≤ x) : marks.contains x = false := by
  cases hc : marks.contains x with
  | false => rfl
  | true => exact absurd (marks_lt x (List.contains_iff_mem.1 hc)) (by omega)

def HasMark (w : World) (b : Bool) (e : Ending) (w' : World) : Prop := e = .returned (.bool b) ∧ Below w.heap.size w w'

set_option maxHeartbeats 1000000 in
theorem contains_high (s : ByteArray) (x : Nat) (w : World) (ha : Asc s) (hs : s.size = 15) (h0 : 128 ≤ x) (h1 : x ≤ 1114111) :
    Calls Try.prog 13 #[.string s, .int .i32 (x : Int)] w fun e w' => HasMark w false e w' := by
  have HC := hid (rune_high s x w ha hs h0 h1)
  clear ha hs h0 h1
  go_enter Try.func13, Try.ntmps13
  go_wp2_with fail
  refine HC.out.mono ?_
  rintro e w' ⟨rfl, hb⟩
  go_wp2
  go_ret
  exact ⟨rfl, hb⟩

theorem has_mark (x : Nat) (w : World) (h1 : x ≤ 1114111) :
    Calls Try.prog 13 #[.string mk, .int .i32 (x : Int)] w fun e w' => HasMark w (marks.contains x) e w' := by
  by_cases h0 : 128 ≤ x
  · rw [marks_high x h0]
    exact contains_high mk x w mk_asc mk_size h0 h1
  · refine (Try.strings_ContainsRune_ascii mk x w (by omega) (by omega)).mono ?_
    rintro e w' ⟨rfl, rfl⟩
    rw [mk_low x (by omega)]
    exact ⟨rfl, Below.refl _ _⟩
end Go.Proofs.Qxb6600272a
