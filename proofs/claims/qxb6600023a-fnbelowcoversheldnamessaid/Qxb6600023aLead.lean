/-
  THE WALK of FnBelowNextLeadsToHeldNames.
-/
import Derived.Test.Qxb6600023aBelow
namespace Go.Proofs.Qxb6600023a
open Go.RowKit Go.Shelf Go.Sort
set_option linter.unusedVariables false

/-! ### from lists to cells and back -/
def bytesS (ss : List (List UInt8)) (j : Nat) : ByteArray := ⟨(ss.getD j []).toArray⟩

theorem Reads.strs {w : World} {a : Option Addr} {n c : Nat} {ss : List (List UInt8)} (h : Reads w (.slice a n c) ss) : n = ss.length ∧ Strs w a ss.length (bytesS ss) := by
  obtain ⟨a', c', e, h1, h2, h3⟩ := h
  cases e
  refine ⟨rfl, ?_⟩
  rcases h3 with h3 | ⟨b, rfl, hlt, h3⟩
  · subst h3; exact Or.inl rfl
  · exact Or.inr ⟨b, 0, rfl, fun j hj => by rw [Nat.zero_add]; exact h3 j hj⟩

theorem strsOf_bytesS (ss : List (List UInt8)) : strsOf ss.length (bytesS ss) = ss := by
  apply List.ext_getElem
  · simp [strsOf]
  · intro i h1 h2
    simp [strsOf, bytesS, List.getD_eq_getElem?_getD, h2]

theorem short_strsOf {n : Nat} {S : Nat → ByteArray} (h : Short n S) : ∀ x ∈ strsOf n S, x.length ≤ 1048576 := by
  intro x hx
  obtain ⟨j, hj, rfl⟩ := List.mem_map.1 hx
  have := h j (by simpa using hj)
  simpa using this

theorem short_bytesS {ss : List (List UInt8)} (h : ∀ x ∈ ss, x.length ≤ 1048576) : Short ss.length (bytesS ss) := by
  intro j hj
  show (ss.getD j []).toArray.size ≤ 1048576
  rw [List.getD_eq_getElem?_getD, List.getElem?_eq_getElem hj]
  simpa using h _ (List.getElem_mem hj)

theorem setOf_length (l : List (List UInt8)) : (setOf l).length ≤ l.length := by
  unfold setOf
  have h := Lib.compact_length_le (l.mergeSort fun x y => decide (x ≤ y))
  rw [List.length_mergeSort] at h
  exact h

/-! ### plain facts of the law -/
structure Good (N B : List (List UInt8)) : Prop where
  sN : N.Pairwise (fun x y => x < y)
  sB : B.Pairwise (fun x y => x < y)
  lN : N.length ≤ 1048576
  lB : B.length ≤ 1048576
  zN : ∀ x ∈ N, x.length ≤ 1048577
  zB : ∀ x ∈ B, x.length ≤ 1048577
  ends : ∀ b ∈ B, ∃ q, b = q ++ [47]

theorem good_of {ss1 ss2 : List (List UInt8)} (h1 : ss1.length ≤ 1048576) (h2 : ss2.length ≤ 1048576) (z1 : ∀ x ∈ ss1, x.length ≤ 1048576) (z2 : ∀ x ∈ ss2, x.length ≤ 1048576) :
    Good (setOf ss1) (setOf (ss2.map fun l => l ++ [47])) := by
  refine ⟨sorted_setOf _, sorted_setOf _, Nat.le_trans (setOf_length _) h1, Nat.le_trans (setOf_length _) (by simpa using h2), fun x hx => ?_, fun x hx => ?_, fun b hb => ?_⟩
  · have := z1 x (mem_setOf.1 hx)
    omega
  · obtain ⟨l, hl, rfl⟩ := List.mem_map.1 (mem_setOf.1 hx)
    have := z2 l hl
    simp
    omega
  · obtain ⟨l, hl, rfl⟩ := List.mem_map.1 (mem_setOf.1 hb)
    exact ⟨l, rfl⟩

theorem child_len {N B : List (List UInt8)} (h : Good N B) {ns c : List UInt8} (hc : c ∈ nextB N B ns) : (childOf ns c).length ≤ 1048577 := by
  obtain ⟨r, hr, rfl⟩ := (mem_nextB h.sN h.sB).1 hc
  rw [childOf_eq]
  have h1 : (firstC r).length ≤ r.length := (List.takeWhile_sublist _).length_le
  have h2 : (preOf ns ++ r).length ≤ 1048577 := by
    rcases hr with hr | hr
    · exact h.zN _ hr
    · exact h.zB _ hr
  simp at h2 ⊢
  omega

theorem next_slash {N B : List (List UInt8)} (h : Good N B) {ns c : List UInt8} (hc : c ∈ nextB N B ns) : slashB c = false := by
  obtain ⟨r, hr, rfl⟩ := (mem_nextB h.sN h.sB).1 hc
  exact slash_firstC r

theorem next_len {N B : List (List UInt8)} (h : Good N B) {ns : List UInt8} : (nextB N B ns).length ≤ 2097152 := by
  unfold nextB
  refine Nat.le_trans (setOf_length _) ?_
  have h1 := compsOf_length N (preOf ns)
  have h2 := compsOf_length B (preOf ns)
  have := h.lN
  have := h.lB
  rw [List.length_append]
  omega

/-- The child's string. -/
def IsChild (ns c ch : ByteArray) : Prop := ch.data.toList = childOf ns.data.toList c.data.toList

theorem isChild_none {ns : ByteArray} (h : ns.toList.isEmpty = true) (c : ByteArray) : IsChild ns c c := by
  rw [Lib.toList_data, List.isEmpty_iff] at h
  unfold IsChild childOf
  rw [if_pos h]

theorem isChild_some {ns : ByteArray} (h : ns.toList.isEmpty = false) (c : ByteArray) : IsChild ns c (ns ++ ⟨#[47]⟩ ++ c) := by
  unfold IsChild childOf
  rw [if_neg]
  · simp
  · intro e
    rw [Lib.toList_data, e] at h
    cases h

/-- The round's facts on the set, in whatever world the loop has come to. -/
theorem lead_round {w : World} {g : Nat} {ev : Bool} {N B : List (List UInt8)} (hset : IsSet w g ev N B) (hg : Good N B) {ns c ch : ByteArray} (hall : allB ev B ns.data.toList = false) (hc : c.data.toList ∈ nextB N B ns.data.toList) (hch : IsChild ns c ch) :
    Calls Try.prog 16 #[.pointer (some ⟨g, 0, none⟩), .string ch] w (fun e w' => e = .returned (.bool (heldB ev N B ch.data.toList)) ∧ ∃ q, w' = w.drewN q) ∧
    (∀ q, Calls Try.prog 15 #[.pointer (some ⟨g, 0, none⟩), .string ch] (w.drewN q) (BelowLeft ev N B ch.data.toList (w.drewN q))) ∧
    (heldB ev N B ch.data.toList = true ∨ nextB N B ch.data.toList ≠ []) := by
  have hl := child_len hg hc
  have hs : ch.size ≤ 1048577 := by
    have : ch.data.toList.length ≤ 1048577 := by rw [hch]; exact hl
    simpa using this
  refine ⟨holds_any g ev N B ch w hset hg.sN hg.sB (by have := hg.lN; omega) (by have := hg.lB; omega) (by omega), fun q => below_any g ev N B ch _ hset.draws hg.sN hg.sB hg.lN hg.lB (by omega) (fun x hx => by have := hg.zN x hx; omega) (fun x hx => by have := hg.zB x hx; omega), ?_⟩
  rw [hch]
  exact leads hg.sN hg.sB hg.ends hall hc

theorem round_cells {w4 wr : World} {a3 : Option Addr} {c3 k : Nat} {nx : List (List UInt8)} (hR : Reads w4 (.slice a3 nx.length c3) nx) (hb : Below w4.heap.size w4 wr) (hk : k < nx.length) (hs : nx.Pairwise (fun x y => x < y)) :
    ∃ (b : Nat) (cs : ByteArray), a3 = some ⟨b, 0, none⟩ ∧ wr.cell? ⟨b, k, none⟩ = some (.string cs) ∧ cs.data.toList ∈ nx ∧ (0 < k → ∃ pv : ByteArray, wr.cell? ⟨b, k - 1, none⟩ = some (.string pv) ∧ Op.bytesLess pv.toList cs.toList = true) := by
  obtain ⟨a', c', e, h1, h2, h3⟩ := hR.below hb
  cases e
  rcases h3 with h3 | ⟨b, rfl, hlt, h3⟩
  · subst h3; simp at hk
  · refine ⟨b, bytesS nx k, rfl, h3 k hk, ?_, fun h0 => ⟨bytesS nx (k - 1), h3 (k - 1) (by omega), ?_⟩⟩
    · show (nx.getD k []).toArray.toList ∈ nx
      rw [List.getD_eq_getElem?_getD, List.getElem?_eq_getElem hk]
      exact List.getElem_mem hk
    · rw [bytesLess_eq, Lib.toList_data, Lib.toList_data]
      have hp : k - 1 < nx.length := by omega
      have := List.pairwise_iff_getElem.1 hs (k - 1) k hp hk (by omega)
      simpa [bytesS, List.getD_eq_getElem?_getD, hk, hp] using this

theorem next_some {B0 : Nat} {w5 : World} {v5 : Value} {nx : List (List UInt8)} {h : Bool} (hown : Own B0 w5 v5 nx) (hl : h = true ∨ nx ≠ []) (hh : h = false) : ∃ (a5 : Option Addr) (n5 c5 : Nat), v5 = .slice a5 n5 c5 ∧ 0 < n5 := by
  obtain ⟨a5, c5, hv, _⟩ := hown.reads
  refine ⟨a5, nx.length, c5, hv, ?_⟩
  rcases hl with hl | hl
  · rw [hh] at hl; cases hl
  · exact List.length_pos_iff.2 hl

/-- The law's own words for what it leaves. -/
def LawLeft (w : World) (e : Ending) (w' : World) : Prop := e = .returned (.bool true) ∧ Below w.heap.size w w'

set_option maxHeartbeats 4000000 in
theorem lead_walk (ev : Bool) (a1 a2 : Option Addr) (n1 c1 n2 c2 : Nat) (S1 S2 : Nat → ByteArray) (ns : ByteArray) (w : World) (hn1 : n1 ≤ maxLen) (hn2 : n2 ≤ maxLen) (hns : ns.size ≤ maxLen)
    (hz1 : ∀ j, j < n1 → (S1 j).size ≤ maxLen) (hz2 : ∀ j, j < n2 → (S2 j).size ≤ maxLen) (hS1 : Strs w a1 n1 S1) (hS2 : Strs w a2 n2 S2) :
    Calls Try.prog 4 #[.bool ev, .slice a1 n1 c1, .slice a2 n2 c2, .string ns] w (LawLeft w) := by
  have HZ := hid (small19_any ev a1 a2 n1 c1 n2 c2 S1 S2 ns w hn1 hn2 hns hz1 hz2 hS1 hS2)
  have HB1 := hid (bytes_any a1 n1 c1 S1 w hn1 hz1 hS1)
  have HB2 := hid (bytes_any a2 n2 c2 S2 w hn2 hz2 hS2)
  have HS := hid (And.intro hS1 hS2)
  clear hn1 hn2 hns hz1 hz2 hS1 hS2
  go_enter Try.func4, Try.ntmps4
  go_wp2_with fail
  refine HZ.out.mono ?_
  rintro e w' ⟨hw, he | ⟨he, hfit⟩⟩
  · obtain rfl := hw.symm
    subst he
    go_wp2
    go_ret
    exact ⟨rfl, Below.refl _ _⟩
  · obtain rfl := hw.symm
    subst he
    have hns := hfit.ns
    have HFi := hid hfit
    clear hfit hw HZ
    go_wp2_with fail
    refine HB1.out.mono ?_
    rintro e w' ⟨m1, rfl, hm10, hm11, hw⟩
    obtain rfl := hw.symm
    go_wp2_with fail
    refine HB2.out.mono ?_
    rintro e w' ⟨m2, rfl, hm20, hm21, hw⟩
    obtain rfl := hw.symm
    clear HB1 HB2 hw
    go_wp2_with fail
    · go_ret
      exact ⟨rfl, Below.refl _ _⟩
    have hf := HFi.out
    refine (clone_any a1 n1 c1 S1 w hf.len1 HS.out.1).mono ?_
    rintro e w1 ⟨v1, rfl, hown1, hbel1⟩
    obtain ⟨b1, d1, hv1, _⟩ := hown1.reads
    subst hv1
    have HC1 := hid (And.intro hown1.reads hbel1)
    clear hown1 hbel1 hf
    go_wp2_with fail
    have hf := HFi.out
    refine (clone_any a2 n2 c2 S2 w1 hf.len2 (HS.out.2.below HC1.out.2)).mono ?_
    rintro e w2 ⟨v2, rfl, hown2, hbel2⟩
    obtain ⟨b2, d2, hv2, _⟩ := hown2.reads
    subst hv2
    have HC2 : Hid (Reads w2 (.slice b1 (strsOf n1 S1).length d1) (strsOf n1 S1) ∧ Reads w2 (.slice b2 (strsOf n2 S2).length d2) (strsOf n2 S2) ∧ Below w.heap.size w w2) :=
      ⟨HC1.out.1.below hbel2, hown2.reads, HC1.out.2.trans (hbel2.mono HC1.out.2.size)⟩
    have hss1 : (strsOf n1 S1).length ≤ 1048576 := by rw [strsOf_length]; exact hf.len1
    have hss2 : (strsOf n2 S2).length ≤ 1048576 := by rw [strsOf_length]; exact hf.len2
    have HG := hid (good_of hss1 hss2 (short_strsOf hf.s1) (short_strsOf hf.s2))
    have hsh2 := short_strsOf hf.s2
    clear hown2 hbel2 hf HC1 HS HFi
    generalize strsOf n1 S1 = ss1 at HC2 hss1 HG
    generalize strsOf n2 S2 = ss2 at HC2 hss2 HG hsh2
    have HSet : Hid (Calls Try.prog 14 #[.bool ev, .slice b1 ss1.length d1, .slice b2 ss2.length d2] w2 (SetMade ev (setOf ss1) (setOf (ss2.map fun l => l ++ [47])) w2)) := by
      have h := set_any ev b1 b2 ss1.length d1 ss2.length d2 (bytesS ss1) (bytesS ss2) w2 hss1 hss2 HC2.out.1.strs.2 HC2.out.2.1.strs.2 (short_bytesS hsh2)
      unfold nsOf at h
      rw [strsOf_bytesS, strsOf_bytesS] at h
      exact h
    clear hsh2 hss1 hss2
    go_wp2_with fail
    refine HSet.out.mono ?_
    rintro e w3 ⟨g, rfl, hset, hbel3⟩
    generalize setOf ss1 = N at hset HG
    generalize setOf (ss2.map fun l => l ++ [47]) = B at hset HG
    have HI := hid (And.intro hset (HC2.out.2.2.trans (hbel3.mono HC2.out.2.2.size)))
    clear hset hbel3 HSet HC2
    go_wp2_with fail
    have hg := HG.out
    refine (below_any g ev N B ns w3 HI.out.1 hg.sN hg.sB hg.lN hg.lB (by omega) (fun x hx => by have := hg.zN x hx; omega) (fun x hx => by have := hg.zB x hx; omega)).mono ?_
    rintro e w4 ⟨hbel4, ⟨hall, he⟩ | ⟨hall, v, he, hown⟩⟩
    · subst he
      have HE : Hid (Below w.heap.size w w4) := HI.out.2.trans (hbel4.mono HI.out.2.size)
      have q22 : ∀ (w : World) (a : Option Addr) (n c n' c' : Nat), (binOp .eql 22 (.slice a n c) (.slice none n' c')).run Try.prog w = .ok (.bool a.isNone) w := fun w a n c n' c' => Lib.run_eql_slice_nil w _ _ a n c n' c' Try.underlying22
      clear hbel4 hall hg
      go_wp2
      go_ret
      exact ⟨rfl, HE.out⟩
    · subst he
      have hrd := hown.reads
      have hnl := next_len HG.out (ns := ns.data.toList)
      obtain ⟨nx, hnx⟩ : ∃ nx, nx = nextB N B ns.data.toList := ⟨_, rfl⟩
      rw [← hnx] at hrd hnl
      obtain ⟨a3, c3, hv, _⟩ := hrd
      subst hv
      have HR : Hid (Reads w4 (.slice a3 nx.length c3) nx ∧ nx = nextB N B ns.data.toList) := ⟨by have h := hown.reads; rw [← hnx] at h; exact h, hnx⟩
      have HE : Hid (Below w.heap.size w w4) := HI.out.2.trans (hbel4.mono HI.out.2.size)
      have HS4 : Hid (IsSet w4 g ev N B) := HI.out.1.below hbel4
      have HA := hid hall
      clear hown hnx hbel4 hg hall HI
      go_wp2_with fail
      go_loopw [12] (fun i wr => ∃ k : Nat, k ≤ nx.length ∧ i = .int .i64 k ∧ Below w4.heap.size w4 wr) (fun i _ => nx.length - (intOf i).toNat)
      case atStart => exact ⟨0, Nat.zero_le _, rfl, Below.refl _ _⟩
      case round =>
        obtain ⟨k, hk, rfl, hbel⟩ := hrel
        by_cases hlt : k < nx.length
        · obtain ⟨b, cs, rfl, hcell, hmem, hprev⟩ := round_cells HR.out.1 hbel hlt (by rw [HR.out.2]; exact sorted_setOf _)
          have hsetr : IsSet wr g ev N B := HS4.out.below hbel
          have hmem' : cs.data.toList ∈ nextB N B ns.data.toList := by rw [← HR.out.2]; exact hmem
          have hsl := next_slash HG.out hmem'
          have hcl : cs.size ≤ 1048577 := by
            have h1 := child_len HG.out hmem'
            rw [childOf_eq, List.length_append] at h1
            have h2 : cs.data.toList.length = cs.size := by simp
            omega
          have HF : Hid (Below w4.heap.size w4 wr) := hbel
          have HM := hid hmem'
          have HSr := hid hsetr
          clear hbel hmem hmem' hsetr
          cases he : ns.toList.isEmpty with
          | true =>
            have HL := hid (lead_round HSr.out HG.out HA.out HM.out (isChild_none he cs))
            rcases Nat.eq_zero_or_pos k with hk0 | hk0
            · subst hk0
              clear hprev
              cases hh : heldB ev N B cs.data.toList with
              | true =>
                go_wp2_with (first
                  | (go_at_call 20; refine (hasSlash_any cs _ (by unfold maxLen; omega)).mono ?_; rintro e w' ⟨rfl, hw⟩; obtain rfl := hw.symm)
                  | (go_at_call 16; refine HL.out.1.mono ?_; rintro e w' ⟨rfl, q, rfl⟩))
                go_roundw
                case rel => exact ⟨0 + 1, by omega, by go_num, below_drewN HF.out _⟩
                case measure => simp [intOf]; omega
              | false =>
                go_wp2_with (first
                  | (go_at_call 20; refine (hasSlash_any cs _ (by unfold maxLen; omega)).mono ?_; rintro e w' ⟨rfl, hw⟩; obtain rfl := hw.symm)
                  | (go_at_call 16; refine HL.out.1.mono ?_; rintro e w' ⟨rfl, q, rfl⟩))
                refine (HL.out.2.1 _).mono ?_
                rintro e w5 ⟨hbel5, ⟨_, he5⟩ | ⟨_, v5, he5, hown5⟩⟩
                · subst he5
                  have HX : Hid (Below w4.heap.size w4 w5) := HF.out.trans (((below_drewN (Below.refl _ _) q).trans hbel5).mono HF.out.size)
                  clear hbel5
                  go_wp2
                  go_roundw
                  case rel => exact ⟨0 + 1, by omega, by go_num, HX.out⟩
                  case measure => simp [intOf]; omega
                · subst he5
                  have HX : Hid (Below w4.heap.size w4 w5) := HF.out.trans (((below_drewN (Below.refl _ _) q).trans hbel5).mono HF.out.size)
                  obtain ⟨a5, n5, c5, hv5, hn5⟩ := next_some hown5 (HL.out.2.2) hh
                  subst hv5
                  clear hbel5 hown5
                  go_wp2
                  go_roundw
                  case rel => exact ⟨0 + 1, by omega, by go_num, HX.out⟩
                  case measure => simp [intOf]; omega
            · obtain ⟨pv, hpc, hpl⟩ := hprev hk0
              have hk0' : (0 : Int) < (k : Int) := by omega
              clear hprev
              cases hh : heldB ev N B cs.data.toList with
              | true =>
                go_wp2_with (first
                  | (go_at_call 20; refine (hasSlash_any cs _ (by unfold maxLen; omega)).mono ?_; rintro e w' ⟨rfl, hw⟩; obtain rfl := hw.symm)
                  | (go_at_call 16; refine HL.out.1.mono ?_; rintro e w' ⟨rfl, q, rfl⟩))
                go_roundw
                case rel => exact ⟨k + 1, by omega, by go_num, below_drewN HF.out _⟩
                case measure => simp [intOf]; omega
              | false =>
                go_wp2_with (first
                  | (go_at_call 20; refine (hasSlash_any cs _ (by unfold maxLen; omega)).mono ?_; rintro e w' ⟨rfl, hw⟩; obtain rfl := hw.symm)
                  | (go_at_call 16; refine HL.out.1.mono ?_; rintro e w' ⟨rfl, q, rfl⟩))
                refine (HL.out.2.1 _).mono ?_
                rintro e w5 ⟨hbel5, ⟨_, he5⟩ | ⟨_, v5, he5, hown5⟩⟩
                · subst he5
                  have HX : Hid (Below w4.heap.size w4 w5) := HF.out.trans (((below_drewN (Below.refl _ _) q).trans hbel5).mono HF.out.size)
                  clear hbel5
                  go_wp2
                  go_roundw
                  case rel => exact ⟨k + 1, by omega, by go_num, HX.out⟩
                  case measure => simp [intOf]; omega
                · subst he5
                  have HX : Hid (Below w4.heap.size w4 w5) := HF.out.trans (((below_drewN (Below.refl _ _) q).trans hbel5).mono HF.out.size)
                  obtain ⟨a5, n5, c5, hv5, hn5⟩ := next_some hown5 (HL.out.2.2) hh
                  subst hv5
                  clear hbel5 hown5
                  go_wp2
                  go_roundw
                  case rel => exact ⟨k + 1, by omega, by go_num, HX.out⟩
                  case measure => simp [intOf]; omega
          | false =>
            have HL := hid (lead_round HSr.out HG.out HA.out HM.out (isChild_some he cs))
            obtain ⟨ch, hch⟩ : ∃ ch, ns ++ ⟨#[47]⟩ ++ cs = ch := ⟨_, rfl⟩
            rw [hch] at HL
            rcases Nat.eq_zero_or_pos k with hk0 | hk0
            · subst hk0
              clear hprev
              cases hh : heldB ev N B ch.data.toList with
              | true =>
                go_wp2_with (first
                  | (go_at_call 20; refine (hasSlash_any cs _ (by unfold maxLen; omega)).mono ?_; rintro e w' ⟨rfl, hw⟩; obtain rfl := hw.symm)
                  | (go_at_call 16; refine HL.out.1.mono ?_; rintro e w' ⟨rfl, q, rfl⟩))
                go_roundw
                case rel => exact ⟨0 + 1, by omega, by go_num, below_drewN HF.out _⟩
                case measure => simp [intOf]; omega
              | false =>
                go_wp2_with (first
                  | (go_at_call 20; refine (hasSlash_any cs _ (by unfold maxLen; omega)).mono ?_; rintro e w' ⟨rfl, hw⟩; obtain rfl := hw.symm)
                  | (go_at_call 16; refine HL.out.1.mono ?_; rintro e w' ⟨rfl, q, rfl⟩))
                refine (HL.out.2.1 _).mono ?_
                rintro e w5 ⟨hbel5, ⟨_, he5⟩ | ⟨_, v5, he5, hown5⟩⟩
                · subst he5
                  have HX : Hid (Below w4.heap.size w4 w5) := HF.out.trans (((below_drewN (Below.refl _ _) q).trans hbel5).mono HF.out.size)
                  clear hbel5
                  go_wp2
                  go_roundw
                  case rel => exact ⟨0 + 1, by omega, by go_num, HX.out⟩
                  case measure => simp [intOf]; omega
                · subst he5
                  have HX : Hid (Below w4.heap.size w4 w5) := HF.out.trans (((below_drewN (Below.refl _ _) q).trans hbel5).mono HF.out.size)
                  obtain ⟨a5, n5, c5, hv5, hn5⟩ := next_some hown5 (HL.out.2.2) hh
                  subst hv5
                  clear hbel5 hown5
                  go_wp2
                  go_roundw
                  case rel => exact ⟨0 + 1, by omega, by go_num, HX.out⟩
                  case measure => simp [intOf]; omega
            · obtain ⟨pv, hpc, hpl⟩ := hprev hk0
              have hk0' : (0 : Int) < (k : Int) := by omega
              clear hprev
              cases hh : heldB ev N B ch.data.toList with
              | true =>
                go_wp2_with (first
                  | (go_at_call 20; refine (hasSlash_any cs _ (by unfold maxLen; omega)).mono ?_; rintro e w' ⟨rfl, hw⟩; obtain rfl := hw.symm)
                  | (go_at_call 16; refine HL.out.1.mono ?_; rintro e w' ⟨rfl, q, rfl⟩))
                go_roundw
                case rel => exact ⟨k + 1, by omega, by go_num, below_drewN HF.out _⟩
                case measure => simp [intOf]; omega
              | false =>
                go_wp2_with (first
                  | (go_at_call 20; refine (hasSlash_any cs _ (by unfold maxLen; omega)).mono ?_; rintro e w' ⟨rfl, hw⟩; obtain rfl := hw.symm)
                  | (go_at_call 16; refine HL.out.1.mono ?_; rintro e w' ⟨rfl, q, rfl⟩))
                refine (HL.out.2.1 _).mono ?_
                rintro e w5 ⟨hbel5, ⟨_, he5⟩ | ⟨_, v5, he5, hown5⟩⟩
                · subst he5
                  have HX : Hid (Below w4.heap.size w4 w5) := HF.out.trans (((below_drewN (Below.refl _ _) q).trans hbel5).mono HF.out.size)
                  clear hbel5
                  go_wp2
                  go_roundw
                  case rel => exact ⟨k + 1, by omega, by go_num, HX.out⟩
                  case measure => simp [intOf]; omega
                · subst he5
                  have HX : Hid (Below w4.heap.size w4 w5) := HF.out.trans (((below_drewN (Below.refl _ _) q).trans hbel5).mono HF.out.size)
                  obtain ⟨a5, n5, c5, hv5, hn5⟩ := next_some hown5 (HL.out.2.2) hh
                  subst hv5
                  clear hbel5 hown5
                  go_wp2
                  go_roundw
                  case rel => exact ⟨k + 1, by omega, by go_num, HX.out⟩
                  case measure => simp [intOf]; omega
        · have HF : Hid (Below w.heap.size w wr) := HE.out.trans (hbel.mono HE.out.size)
          clear hbel
          go_wp2
          go_ret
          exact ⟨rfl, HF.out⟩
end Go.Proofs.Qxb6600023a
