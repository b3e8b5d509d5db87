/-
  Holds, strings.Cut at one slash.
-/
import Derived.Test.Qxb6600023aFind
namespace Go.Proofs.Qxb6600023a
open Go.RowKit Go.Shelf Go.Sort
set_option linter.unusedVariables false

set_option maxHeartbeats 1000000 in
theorem holds_any (g : Nat) (ev : Bool) (N B : List (List UInt8)) (nm : ByteArray) (w : World) (hset : IsSet w g ev N B) (hN : N.Pairwise (fun x y => x < y)) (hB : B.Pairwise (fun x y => x < y)) (hlN : N.length ≤ 4194304) (hlB : B.length ≤ 4194304) (hnm : nm.size ≤ 4194304) :
    Calls Try.prog 16 #[.pointer (some ⟨g, 0, none⟩), .string nm] w fun e w' => e = .returned (.bool (heldB ev N B nm.data.toList)) ∧ ∃ q, w' = w.drewN q := by
  have HI : Hid (∀ q, Calls Try.prog 33 #[.pointer (some ⟨g, 0, none⟩), .string nm] (w.drewN q) fun e w' => e = .returned (.bool (inNS B nm.data.toList)) ∧ ∃ q', w' = (w.drewN q).drewN q') := fun q => inNS_any g ev N B nm _ hset.draws hB hlB hnm
  obtain ⟨v1, v2, h0, h1, h2, h3, h4⟩ := hset
  have HR := hid h3
  have HSo := hid hN
  clear h2 h3 h4 hN hB
  cases ev with
  | true =>
    go_enter Try.func16, Try.ntmps16
    go_wp2
    go_ret
    exact ⟨rfl, 0, rfl⟩
  | false =>
    cases hc : hasB N nm with
    | true =>
      have HC := hid hc
      clear HI
      go_enter Try.func16, Try.ntmps16
      go_wp2_with (go_at_call 34; refine (search_any v1 N nm _ HR.out HSo.out hlN).mono ?_; rintro e w' ⟨rfl, q, rfl⟩)
      go_ret
      exact ⟨ret_bool (by unfold heldB; unfold hasB at hc; rw [hc]; rfl), q, rfl⟩
    | false =>
      go_enter Try.func16, Try.ntmps16
      go_wp2_with (first
        | (go_at_call 34; refine (search_any v1 N nm _ HR.out HSo.out hlN).mono ?_; rintro e w' ⟨rfl, q, rfl⟩)
        | (go_at_call 33; refine (HI.out _).mono ?_; rintro e w' ⟨rfl, q', rfl⟩))
      go_ret
      exact ⟨ret_bool (by unfold heldB; unfold hasB at hc; rw [hc]; simp), q + q', rfl⟩

/-! ### strings.Cut -/
theorem index_slash : ∀ (l : List UInt8), Lib.indexByte l 47 = if 47 ∈ l then ((firstC l).length : Int) else -1
  | [] => rfl
  | a :: l => by
    have ih := index_slash l
    unfold Lib.indexByte
    by_cases h : a = 47
    · subst h; simp [firstC]
    · have hf : firstC (a :: l) = a :: firstC l := by unfold firstC; rw [List.takeWhile_cons_of_pos (by simpa using h)]
      rw [ih, hf]
      by_cases hm : 47 ∈ l
      · have h1 : ¬ (((firstC l).length : Int) = -1) := by omega
        simp [h, hm, h1]
      · have h2 : ¬ (47 = a) := fun e => h e.symm
        simp [h, hm, h2]

/-- What Cut hands back: the first component, and two things more. -/
def CutLeft (s : ByteArray) (w : World) (e : Ending) (w' : World) : Prop := ∃ (r : ByteArray) (f : Bool) (q : Nat), e = .returned (.tuple #[.string ⟨(firstC s.data.toList).toArray⟩, .string r, .bool f]) ∧ w' = w.drewN q

theorem extract_first (s : ByteArray) : s.extract 0 (firstC s.data.toList).length = ⟨(firstC s.data.toList).toArray⟩ := by
  apply ByteArray.ext
  apply Array.toList_inj.1
  rw [Lib.extract_data]
  have hp : firstC s.data.toList <+: s.data.toList := List.takeWhile_prefix _
  simpa using (List.prefix_iff_eq_take.1 hp).symm

theorem firstC_len {l : List UInt8} (h : 47 ∈ l) : (firstC l).length + 1 ≤ l.length := by
  obtain ⟨t, ht⟩ := firstC_some h
  have := congrArg List.length ht
  simp at this
  omega

set_option maxHeartbeats 1000000 in
theorem cut45_any (s : ByteArray) (w : World) (hs : s.size ≤ 4194304) : Calls Try.prog 45 #[.string s, .string ⟨#[47]⟩] w (CutLeft s w) := by
  have hidx := index_slash s.data.toList
  by_cases hm : 47 ∈ s.data.toList
  · rw [if_pos hm] at hidx
    have hlen := firstC_len hm
    have hle : (firstC s.data.toList).length + 1 ≤ s.size := by simpa using hlen
    have hex := extract_first s
    obtain ⟨k, hk⟩ : ∃ k, (firstC s.data.toList).length = k := ⟨_, rfl⟩
    rw [hk] at hidx hle hex
    have HC : Hid (Calls Try.prog 52 #[.string s, .string ⟨#[47]⟩] w fun e w' => e = .returned (.int .i64 k) ∧ w' = w) := by
      have := Try.stringslite_Index_one s 47 w
      rw [hidx] at this
      exact this
    have HE := hid hex
    have h1 : (k : Int) + 1 ≤ (s.size : Int) := by omega
    have h2 : (0 : Int) ≤ (k : Int) + 1 := by omega
    have hwrap : IntKind.i64.wrap ((k : Int) + 1) = (k : Int) + 1 := by rw [IntKind.wrap_i64]; omega
    clear hidx hm hlen hk hex
    go_enter Try.func45, Try.ntmps45
    go_wp2_with (go_at_call 52; refine HC.out.mono ?_; rintro e w' ⟨rfl, hw⟩; obtain rfl := hw.symm)
    go_quiet (fail)
    go_wp2
    go_ret3
    rw [HE.out]
    exact ⟨_, _, _, rfl, rfl⟩
  · rw [if_neg hm] at hidx
    have HC : Hid (Calls Try.prog 52 #[.string s, .string ⟨#[47]⟩] w fun e w' => e = .returned (.int .i64 (-1)) ∧ w' = w) := by
      have := Try.stringslite_Index_one s 47 w
      rw [hidx] at this
      exact this
    have HF := hid (firstC_none hm)
    clear hidx hm
    go_enter Try.func45, Try.ntmps45
    go_wp2_with (go_at_call 52; refine HC.out.mono ?_; rintro e w' ⟨rfl, hw⟩; obtain rfl := hw.symm)
    go_ret3
    refine ⟨⟨#[]⟩, false, 0, ?_, rfl⟩
    rw [HF.out]
    rfl

set_option maxHeartbeats 400000 in
theorem cut_any (s : ByteArray) (w : World) (hs : s.size ≤ 4194304) : Calls Try.prog 36 #[.string s, .string ⟨#[47]⟩] w (CutLeft s w) := by
  go_enter Try.func36, Try.ntmps36
  go_wp2_with (go_at_call 45; refine (cut45_any s w hs).mono ?_; rintro e w' ⟨r, f, q, rfl, rfl⟩)
  go_ret3
  exact ⟨_, _, _, rfl, rfl⟩
end Go.Proofs.Qxb6600023a
