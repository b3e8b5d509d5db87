/-
  THE WALK of FnBelowCoversHeldNames.
-/
import Derived.Test.Qxb6600023aLeafB
namespace Go.Proofs.Qxb6600023a
open Go.RowKit Go.Shelf Go.Sort
set_option linter.unusedVariables false

theorem opens_iff {x p : ByteArray} (h : opensB x p = true) : p.data.toList <+: x.data.toList := by
  unfold opensB at h
  exact List.isPrefixOf_iff_prefix.1 h

/-- The listed component that x's tail opens with. -/
theorem listed {ev : Bool} {N B : List (List UInt8)} (hg : Good N B) {ns x p f : ByteArray} (hp : IsPre ns p) (ho : opensB x p = true) (hall : allB ev B ns.data.toList = false) (hh : heldB ev N B x.data.toList = true)
    (hf : f.data.toList = firstC (x.extract p.size x.size).data.toList) : hasB (nextB N B ns.data.toList) f = true := by
  have h1 := opens_iff ho
  rw [hp.1] at h1
  have h2 := held_listed hg.sN hg.sB h1 hall hh
  unfold hasB
  rw [List.contains_iff_mem, hf, Lib.extract_data]
  have e : (x.data.toList.drop p.size).take (x.size - p.size) = x.data.toList.drop (preOf ns.data.toList).length := by
    rw [← hp.1]
    rw [List.take_of_length_le (by simp)]
    congr 1
  rw [e]
  exact h2

set_option maxHeartbeats 4000000 in
theorem cover_walk (ev : Bool) (a1 a2 : Option Addr) (n1 c1 n2 c2 : Nat) (S1 S2 : Nat → ByteArray) (ns x : ByteArray) (w : World) (hn1 : n1 ≤ maxLen) (hn2 : n2 ≤ maxLen) (hns : ns.size ≤ maxLen) (hx : x.size ≤ maxLen)
    (hz1 : ∀ j, j < n1 → (S1 j).size ≤ maxLen) (hz2 : ∀ j, j < n2 → (S2 j).size ≤ maxLen) (hS1 : Strs w a1 n1 S1) (hS2 : Strs w a2 n2 S2) :
    Calls Try.prog 3 #[.bool ev, .slice a1 n1 c1, .slice a2 n2 c2, .string ns, .string x] w (LawLeft w) := by
  have HZ := hid (small9_any ev a1 a2 n1 c1 n2 c2 S1 S2 ns x w hn1 hn2 hns hx hz1 hz2 hS1 hS2)
  have HB1 := hid (bytes_any a1 n1 c1 S1 w hn1 hz1 hS1)
  have HB2 := hid (bytes_any a2 n2 c2 S2 w hn2 hz2 hS2)
  have HS := hid (And.intro hS1 hS2)
  clear hn1 hn2 hns hx hz1 hz2 hS1 hS2
  go_enter Try.func3, Try.ntmps3
  go_wp2_with fail
  refine HZ.out.mono ?_
  rintro e w' ⟨hw, he | ⟨he, hfit, hx⟩⟩
  · obtain rfl := hw.symm
    subst he
    go_wp2
    go_ret
    exact ⟨rfl, Below.refl _ _⟩
  · obtain rfl := hw.symm
    subst he
    have hns := hfit.ns
    have HFi := hid hfit
    clear hfit hw HZ
    go_wp2_with fail
    refine HB1.out.mono ?_
    rintro e w' ⟨m1, rfl, hm10, hm11, hw⟩
    obtain rfl := hw.symm
    go_wp2_with fail
    refine HB2.out.mono ?_
    rintro e w' ⟨m2, rfl, hm20, hm21, hw⟩
    obtain rfl := hw.symm
    clear HB1 HB2 hw
    go_wp2_with fail
    · go_ret
      exact ⟨rfl, Below.refl _ _⟩
    refine (pre11_any ns w (by omega)).mono ?_
    rintro e w' ⟨hw, p, rfl, hp⟩
    obtain rfl := hw.symm
    have hps : p.size ≤ 2097153 := hp.2
    have HP := hid hp
    clear hp hw
    go_wp2_with fail
    cases ho : opensB x p with
    | false =>
      refine (hasPre12_any x p w (by omega) (by omega)).mono ?_
      rintro e w' ⟨rfl, hw⟩
      obtain rfl := hw.symm
      go_wp2
      go_ret
      exact ⟨rfl, Below.refl _ _⟩
    | true =>
      refine (hasPre12_any x p w (by omega) (by omega)).mono ?_
      rintro e w' ⟨rfl, hw⟩
      obtain rfl := hw.symm
      have hpx : (p.size : Int) ≤ (x.size : Int) := by
        have h := (opens_iff ho).length_le
        simp at h
        omega
      have HO : Hid (opensB x p = true) := ho
      go_wp2_with fail
      clear ho
      have hf := HFi.out
      refine (clone_any a1 n1 c1 S1 w hf.len1 HS.out.1).mono ?_
      rintro e w1 ⟨v1, rfl, hown1, hbel1⟩
      obtain ⟨b1, d1, hv1, _⟩ := hown1.reads
      subst hv1
      have HC1 := hid (And.intro hown1.reads hbel1)
      clear hown1 hbel1 hf
      go_wp2_with fail
      have hf := HFi.out
      refine (clone_any a2 n2 c2 S2 w1 hf.len2 (HS.out.2.below HC1.out.2)).mono ?_
      rintro e w2 ⟨v2, rfl, hown2, hbel2⟩
      obtain ⟨b2, d2, hv2, _⟩ := hown2.reads
      subst hv2
      have HC2 : Hid (Reads w2 (.slice b1 (strsOf n1 S1).length d1) (strsOf n1 S1) ∧ Reads w2 (.slice b2 (strsOf n2 S2).length d2) (strsOf n2 S2) ∧ Below w.heap.size w w2) :=
        ⟨HC1.out.1.below hbel2, hown2.reads, HC1.out.2.trans (hbel2.mono HC1.out.2.size)⟩
      have hss1 : (strsOf n1 S1).length ≤ 1048576 := by rw [strsOf_length]; exact hf.len1
      have hss2 : (strsOf n2 S2).length ≤ 1048576 := by rw [strsOf_length]; exact hf.len2
      have HG := hid (good_of hss1 hss2 (short_strsOf hf.s1) (short_strsOf hf.s2))
      have hsh2 := short_strsOf hf.s2
      clear hown2 hbel2 hf HC1 HS HFi
      generalize strsOf n1 S1 = ss1 at HC2 hss1 HG
      generalize strsOf n2 S2 = ss2 at HC2 hss2 HG hsh2
      have HSet : Hid (Calls Try.prog 14 #[.bool ev, .slice b1 ss1.length d1, .slice b2 ss2.length d2] w2 (SetMade ev (setOf ss1) (setOf (ss2.map fun l => l ++ [47])) w2)) := by
        have h := set_any ev b1 b2 ss1.length d1 ss2.length d2 (bytesS ss1) (bytesS ss2) w2 hss1 hss2 HC2.out.1.strs.2 HC2.out.2.1.strs.2 (short_bytesS hsh2)
        unfold nsOf at h
        rw [strsOf_bytesS, strsOf_bytesS] at h
        exact h
      clear hsh2 hss1 hss2
      go_wp2_with fail
      refine HSet.out.mono ?_
      rintro e w3 ⟨g, rfl, hset, hbel3⟩
      generalize setOf ss1 = N at hset HG
      generalize setOf (ss2.map fun l => l ++ [47]) = B at hset HG
      have HI := hid (And.intro hset (HC2.out.2.2.trans (hbel3.mono HC2.out.2.2.size)))
      clear hset hbel3 HSet HC2
      go_wp2_with fail
      have hg := HG.out
      refine (below_any g ev N B ns w3 HI.out.1 hg.sN hg.sB hg.lN hg.lB (by omega) (fun x hx => by have := hg.zN x hx; omega) (fun x hx => by have := hg.zB x hx; omega)).mono ?_
      rintro e w4 ⟨hbel4, hres⟩
      have HE : Hid (Below w.heap.size w w4) := HI.out.2.trans (hbel4.mono HI.out.2.size)
      have HH := hid (holds_any g ev N B x w4 (HI.out.1.below hbel4) hg.sN hg.sB (by have := hg.lN; omega) (by have := hg.lB; omega) (by omega))
      clear hbel4 hg
      rcases hres with ⟨hall, he⟩ | ⟨hall, v, he, hown⟩
      · subst he
        have hh : heldB ev N B x.data.toList = true := all_held (by have := opens_iff HO.out; rw [HP.out.1] at this; exact this) hall
        have q22 : ∀ (w : World) (a : Option Addr) (n c n' c' : Nat), (binOp .eql 22 (.slice a n c) (.slice none n' c')).run Try.prog w = .ok (.bool a.isNone) w := fun w a n c n' c' => Lib.run_eql_slice_nil w _ _ a n c n' c' Try.underlying22
        have HH' := HH.out
        rw [hh] at HH'
        have HK := hid HH'
        clear hall hh HH HH'
        go_wp2_with (go_at_call 16; refine HK.out.mono ?_; rintro e w5 ⟨rfl, q, rfl⟩)
        go_ret
        exact ⟨rfl, below_drewN HE.out _⟩
      · subst he
        cases hh : heldB ev N B x.data.toList with
        | false =>
          have HH' := HH.out
          rw [hh] at HH'
          have HK := hid HH'
          clear hall hh HH HH' hown
          go_wp2_with (go_at_call 16; refine HK.out.mono ?_; rintro e w5 ⟨rfl, q, rfl⟩)
          go_ret
          exact ⟨rfl, below_drewN HE.out _⟩
        | true =>
          have HH' := HH.out
          rw [hh] at HH'
          have HK := hid HH'
          have HLi : Hid (∀ f : ByteArray, f.data.toList = firstC (x.extract p.size x.size).data.toList → hasB (nextB N B ns.data.toList) f = true) := fun f hf => listed HG.out HP.out HO.out hall hh hf
          have HR := hid hown.reads
          have hnl : (nextB N B ns.data.toList).length ≤ 2097152 := next_len HG.out
          have hxs : (x.extract p.size x.size).size ≤ 1048576 := by
            have h : (x.extract p.size x.size).data.toList.length ≤ 1048576 := by
              rw [Lib.extract_data]
              simp
              omega
            simpa using h
          have HF18 := hid (fun wx => first18_any (x.extract p.size x.size) wx (by omega))
          clear hall hh HH HH' hown hxs
          go_wp2_with (first
            | (go_at_call 16; refine HK.out.mono ?_; rintro e w5 ⟨rfl, q, rfl⟩)
            | (go_at_call 18; refine (HF18.out _).mono ?_; rintro e w6 ⟨hw6, f, rfl, hf⟩; obtain rfl := hw6.symm; have HT := hid (HLi.out f hf); clear hf)
            | (go_at_call 17; refine (contains17_any v _ f _ (HR.out.below (below_drewN (Below.refl _ _) _)) (by omega)).mono ?_; rintro e w7 ⟨rfl, hw7⟩; obtain rfl := hw7.symm))
          go_ret
          exact ⟨ret_bool HT.out, below_drewN HE.out _⟩
end Go.Proofs.Qxb6600023a
