/-
  (*NameSet).Below.
-/
import Derived.Test.Qxb6600023aRun
import Derived.Deep.Cut
import Derived.Deep.CutRange
namespace Go.Proofs.Qxb6600023a
open Go.RowKit Go.Shelf Go.Sort
set_option linter.unusedVariables false

/-- What Below leaves. -/
def BelowLeft (ev : Bool) (N B : List (List UInt8)) (ns : List UInt8) (w : World) (e : Ending) (w' : World) : Prop :=
  Below w.heap.size w w' ∧ ((allB ev B ns = true ∧ e = .returned (.tuple #[.bool true, .slice none 0 0])) ∨ (allB ev B ns = false ∧ ∃ v, e = .returned (.tuple #[.bool false, v]) ∧ Own w.heap.size w' v (nextB N B ns)))

/-- The string p is what the names below ns start with. -/
def IsPre (ns p : ByteArray) : Prop := p.data.toList = preOf ns.data.toList ∧ p.size ≤ 2097153

theorem isPre_none {ns : ByteArray} (h : ns.toList.isEmpty = true) : IsPre ns ⟨#[]⟩ := by
  refine ⟨?_, by decide⟩
  rw [Lib.toList_data, List.isEmpty_iff] at h
  rw [h]
  rfl
theorem isPre_some {ns : ByteArray} (h : ns.toList.isEmpty = false) (hs : ns.size ≤ 2097152) : IsPre ns (ns ++ ⟨#[47]⟩) := by
  refine ⟨?_, ?_⟩
  · rw [slash_back, preOf, if_neg]
    intro e
    rw [Lib.toList_data, e] at h
    cases h
  · rw [slash_back]
    have : (⟨(ns.data.toList ++ [47]).toArray⟩ : ByteArray).size = ns.size + 1 := by
      show (ns.data.toList ++ [47]).toArray.size = ns.data.size + 1
      simp
    omega

/-- THE OUTER LOOP's RELATION. -/
def Outer (w : World) (v1 v2 : Value) (N B : List (List UInt8)) (p : List UInt8) (i : Nat) (v : Value) (wr : World) : Prop :=
  wr.cell? ⟨w.heap.size, 0, none⟩ = some v1 ∧ wr.cell? ⟨w.heap.size, 1, none⟩ = some v2 ∧ Below w.heap.size w wr ∧ w.heap.size + 1 ≤ wr.heap.size ∧ Own (w.heap.size + 1) wr v (accOf N B p i)

/-- THE INNER LOOP's RELATION. -/
def Inner (w w1 : World) (L acc : List (List UInt8)) (p : List UInt8) (k : Nat) (v : Value) (wr : World) : Prop :=
  Own (w.heap.size + 1) wr v (acc ++ gotten L p k) ∧ Opens L p k ∧ Below (w.heap.size + 1) w1 wr

theorem outer_start {w u : World} (hs : u.heap.size = w.heap.size) (hb : Below w.heap.size w u) (v1 v2 : Value) (N B : List (List UInt8)) (p : List UInt8) : Outer w v1 v2 N B p 0 (.slice none 0 0) (u.alloc (.cells #[v1, v2] 22)) := by
  refine ⟨?_, ?_, hb.alloc (by omega) _, by simp; omega, World.ownsRow_nil _ _ _ _⟩
  · rw [← hs]; simp
  · rw [← hs]; simp

/-- What the inner round reads: the name at hand, cut. -/
theorem name_at {w wr w1 wr' : World} {a : Option Addr} {c k F q : Nat} {L : List (List UInt8)} (hR : Reads w (.slice a L.length c) L) (hb : Below w.heap.size w wr) (hw1 : w1 = wr.drewN q) (hb' : Below (w.heap.size + 1) w1 wr') (hk : F + k < L.length) :
    ∃ b, a = some ⟨b, 0, none⟩ ∧ L.length ≤ c ∧ wr'.cell? ⟨b, F + k, none⟩ = some (encStr (L.getD (F + k) [])) := by
  obtain ⟨a', c', e, h1, h2, h3⟩ := hR
  cases e
  rcases h3 with h3 | ⟨b, rfl, hlt, h3⟩
  · subst h3; simp at hk
  · refine ⟨b, rfl, h1, ?_⟩
    rw [hb'.cell (by show b < _; omega), hw1, (below_drewN hb q).cell (by exact hlt)]
    exact h3 _ hk

theorem cutPre_any (nm p : ByteArray) : ∃ (r : ByteArray) (f : Bool), (∀ w, Calls Try.prog 35 #[.string nm, .string p] w fun e w' => e = .returned (.tuple #[.string r, .bool f]) ∧ w' = w) ∧ f = p.data.toList.isPrefixOf nm.data.toList ∧
    (f = true → r.data.toList = nm.data.toList.drop p.data.toList.length) ∧ r.size ≤ nm.size := by
  refine ⟨_, _, fun w => Try.strings_CutPrefix nm p w, rfl, fun h => ?_, ?_⟩
  · simp [Lib.trimPrefix, h]
  · show (Lib.trimPrefix nm.data.toList p.data.toList).toArray.size ≤ nm.data.size
    have := Lib.trimPrefix_le nm.data.toList p.data.toList
    simpa using this

theorem inner_next {w w1 wr' w4 : World} {L acc : List (List UInt8)} {p : List UInt8} {k n : Nat} {v v' : Value} {nm r : List UInt8} {X : List Value} (h : Inner w w1 L acc p k v wr') (hn : n = (acc ++ gotten L p k).length) (hX : X = (acc ++ gotten L p k).map encStr) (hk : lbOf L p + k < L.length) (hnm : nm = L.getD (lbOf L p + k) []) (hf : p.isPrefixOf nm = true) (hr : r = nm.drop p.length)
    (hown : w4.ownsRow (w.heap.size + 1) 9 1 v' (n + 1) (X ++ [.string ⟨(firstC r).toArray⟩])) (hb : Below (w.heap.size + 1) w1 w4) : Inner w w1 L acc p (k + 1) v' w4 := by
  obtain ⟨h1, h2, h3⟩ := h
  subst hnm
  refine ⟨?_, h2.next hf, hb⟩
  unfold Own
  rw [gotten_succ hk, ← List.append_assoc, List.length_append, List.map_append, ← hn, ← hX]
  subst hr
  exact hown

/-- Which list a round of the outer loop looks at. -/
theorem round_list {w wr : World} {a1 a2 : Option Addr} {c1 c2 : Nat} {N B : List (List UInt8)} {p : List UInt8} {i : Nat} {v : Value} (h : Outer w (.slice a1 N.length c1) (.slice a2 B.length c2) N B p i v wr) (hi : i < 2)
    (hR1 : Reads w (.slice a1 N.length c1) N) (hR2 : Reads w (.slice a2 B.length c2) B) (hN : N.Pairwise (fun x y => x < y)) (hB : B.Pairwise (fun x y => x < y)) (hlN : N.length ≤ 1048576) (hlB : B.length ≤ 1048576)
    (hzN : ∀ x ∈ N, x.length ≤ 2097152) (hzB : ∀ x ∈ B, x.length ≤ 2097152) :
    ∃ (L : List (List UInt8)) (a : Option Addr) (c : Nat), wr.cell? ⟨w.heap.size, i, none⟩ = some (.slice a L.length c) ∧ Reads w (.slice a L.length c) L ∧ L.Pairwise (fun x y => x < y) ∧ L.length ≤ 1048576 ∧ (∀ x ∈ L, x.length ≤ 2097152) ∧ accOf N B p (i + 1) = accOf N B p i ++ compsOf L p := by
  by_cases h0 : i = 0
  · subst h0
    exact ⟨N, a1, c1, h.1, hR1, hN, hlN, hzN, by simp [accOf]⟩
  · obtain rfl : i = 1 := by omega
    exact ⟨B, a2, c2, h.2.1, hR2, hB, hlB, hzB, by simp [accOf]⟩

theorem Outer.step {w wr w1 wr' : World} {v1 v2 v v' : Value} {N B L : List (List UInt8)} {p : List UInt8} {i k q : Nat} (h : Outer w v1 v2 N B p i v wr) (hw1 : w1 = wr.drewN q) (hin : Inner w w1 L (accOf N B p i) p k v' wr')
    (hacc : accOf N B p (i + 1) = accOf N B p i ++ compsOf L p) (hstop : L.length ≤ lbOf L p + k ∨ (lbOf L p + k < L.length ∧ p.isPrefixOf (L.getD (lbOf L p + k) []) = false)) : Outer w v1 v2 N B p (i + 1) v' wr' := by
  obtain ⟨h1, h2, h3, h4, _⟩ := h
  obtain ⟨k1, k2, k3⟩ := hin
  have hb : Below (w.heap.size + 1) wr wr' := (below_drewN (Below.refl _ _) q).trans (by rw [← hw1]; exact k3)
  refine ⟨(hb.cell (by show w.heap.size < _; omega)).trans h1, (hb.cell (by show w.heap.size < _; omega)).trans h2, h3.trans (hb.mono (by omega)), Nat.le_trans h4 hb.size, ?_⟩
  rw [hacc, ← gotten_stop k2 hstop]
  exact k1

theorem own_le {B B' : Nat} {w : World} {v : Value} {ss : List (List UInt8)} (h : Own B w v ss) (hB : B' ≤ B) : Own B' w v ss := by
  refine ⟨h.1, ?_⟩
  rcases h.2 with h2 | ⟨g, cap, cur, hv, hg, r⟩
  · exact Or.inl h2
  · exact Or.inr ⟨g, cap, cur, hv, Nat.le_trans hB hg, r⟩

set_option maxHeartbeats 2000000 in
theorem below_any (g : Nat) (ev : Bool) (N B : List (List UInt8)) (ns : ByteArray) (w : World) (hset : IsSet w g ev N B) (hN : N.Pairwise (fun x y => x < y)) (hB : B.Pairwise (fun x y => x < y)) (hlN : N.length ≤ 1048576) (hlB : B.length ≤ 1048576)
    (hns : ns.size ≤ 2097152) (hzN : ∀ x ∈ N, x.length ≤ 2097152) (hzB : ∀ x ∈ B, x.length ≤ 2097152) :
    Calls Try.prog 15 #[.pointer (some ⟨g, 0, none⟩), .string ns] w (BelowLeft ev N B ns.data.toList w) := by
  have HS := hid hset
  have HN := hid (And.intro hN hB)
  have HZ := hid (And.intro hzN hzB)
  clear hset hN hB hzN hzB
  go_enter Try.func15, Try.ntmps15
  go_upto_if 19 with (fail)
  go_cut [6] from 18 (fun s6 wr => wr = w ∧ ∃ p, s6 = .string p ∧ IsPre ns p)
  case first =>
    cases he : ns.toList.isEmpty with
    | true =>
      have HP := hid (isPre_none he)
      go_wp2
      go_meet
      case rel => exact ⟨rfl, _, rfl, HP.out⟩
    | false =>
      have HP := hid (isPre_some he hns)
      go_wp2
      go_meet
      case rel => exact ⟨rfl, _, rfl, HP.out⟩
  case rest =>
    obtain ⟨hwc, p, rfl, hp⟩ := hcut
    obtain rfl := hwc.symm
    have HP := hid hp
    have hps : p.size ≤ 2097153 := hp.2
    clear hp hns
    cases ev with
    | true =>
      obtain ⟨v1, v2, h0, h1, h2, h3, h4⟩ := HS.out
      clear h1 h2 h3 h4
      go_wp2
      go_ret2
      exact ⟨Below.refl _ _, Or.inl ⟨rfl, rfl⟩⟩
    | false =>
      have HI := hid (inNS_any g false N B p w HS.out HN.out.2 (by omega) (by omega))
      obtain ⟨v1, v2, h0, h1, h2, h3, h4⟩ := HS.out
      cases hin : inNS B p.data.toList with
      | true =>
        have HA : Hid (allB false B ns.data.toList = true) := by
          unfold allB
          rw [← HP.out.1, hin]
          rfl
        have HI' := HI.out
        rw [hin] at HI'
        have HJ := hid HI'
        clear h1 h2 h3 h4 hin HI HI'
        go_wp2_with (go_at_call 33; refine HJ.out.mono ?_; rintro e w' ⟨rfl, q, rfl⟩)
        go_ret2
        exact ⟨below_drewN (Below.refl _ _) _, Or.inl ⟨HA.out, rfl⟩⟩
      | false =>
        have HA : Hid (allB false B ns.data.toList = false) := by
          unfold allB
          rw [← HP.out.1, hin]
          rfl
        have HI' := HI.out
        rw [hin] at HI'
        have HJ := hid HI'
        have HR1 := hid h3
        have HR2 := hid h4
        obtain ⟨a1, c1, rfl, _⟩ := h3
        obtain ⟨a2, c2, rfl, _⟩ := h4
        clear hin HI HI'
        go_wp2_with (go_at_call 33; refine HJ.out.mono ?_; rintro e w' ⟨rfl, q, rfl⟩)
        go_region
        go_wp2_with fail
        have HO : Hid (Outer w (.slice a1 N.length c1) (.slice a2 B.length c2) N B p.data.toList 0 (.slice none 0 0) ((w.drewN (q + 1)).alloc (.cells #[.slice a1 N.length c1, .slice a2 B.length c2] 22))) :=
          outer_start (w := w) (u := w.drewN (q + 1)) rfl (below_drewN (Below.refl _ _) _) _ _ _ _ _
        clear h0 h1 h2 HJ HS
        go_loopw [5, 41] (fun v i wr => ∃ k : Nat, k ≤ 2 ∧ i = .int .i64 k ∧ Outer w (.slice a1 N.length c1) (.slice a2 B.length c2) N B p.data.toList k v wr) (fun _ i _ => 2 - (intOf i).toNat)
        case atStart => exact ⟨0, by omega, rfl, HO.out⟩
        case round =>
          obtain ⟨i, hi, rfl, ho⟩ := hrel
          clear HO
          by_cases hlt : i < 2
          · obtain ⟨L, a, c, hcell, hR, hLs, hLl, hLz, hacc⟩ := round_list ho hlt HR1.out HR2.out HN.out.1 HN.out.2 hlN hlB HZ.out.1 HZ.out.2
            have HSe : Hid (Calls Try.prog 34 #[.slice a L.length c, .string p] wr fun e w' => e = .returned (.tuple #[.int .i64 (atB L p : Nat), .bool (hasB L p)]) ∧ ∃ q, w' = wr.drewN q) := search_any _ L p wr (hR.below ho.2.2.1) hLs (by omega)
            have hF : atB L p ≤ L.length := lbOf_le _ _
            obtain ⟨a', c', hsl, htl⟩ := tail_of a L.length c (atB L p) hF
            have HO := hid ho
            have HT := hid htl
            have HR := hid hR
            have HL := hid (And.intro hLz hacc)
            have HFe : Hid (atB L p = lbOf L p.data.toList) := rfl
            clear ho htl hR hLz hacc hLs
            generalize atB L p = F at HSe hF hsl HT HFe
            go_wp2_with (go_at_call 34; refine HSe.out.mono ?_; rintro e w1 ⟨rfl, q1, hw1⟩; have HW1 := hid hw1; clear hw1)
            have HI0 : Hid (Inner w w1 L (accOf N B p.data.toList i) p.data.toList 0 u5 w1) := by
              refine ⟨?_, Opens.none _ _, Below.refl _ _⟩
              rw [gotten_zero, List.append_nil, HW1.out]
              exact (HO.out.2.2.2.2 : World.ownsRow _ _ _ _ _ _ _)
            have hsz1 : w.heap.size + 1 ≤ w1.heap.size := by rw [HW1.out]; exact HO.out.2.2.2.1
            clear hcell hsl HSe
            go_loopw [5, 55] (fun v j wr' => ∃ k : Nat, k ≤ L.length - F ∧ j = .int .i64 k ∧ Inner w w1 L (accOf N B p.data.toList i) p.data.toList k v wr') (fun _ j _ => (L.length - F) - (intOf j).toNat)
            case atStart => exact ⟨0, by omega, rfl, HI0.out⟩
            case round =>
              obtain ⟨k, hk, rfl, hin⟩ := hrel
              clear HI0
              have hszr : w.heap.size + 1 ≤ wr.heap.size := Nat.le_trans hsz1 hin.2.2.size
              by_cases hlt2 : k < L.length - F
              · obtain ⟨b, rfl, hLc, hcellk⟩ := name_at (F := F) (k := k) HR.out HO.out.2.2.1 HW1.out hin.2.2 (by omega)
                have ha' := HT.out b rfl (by omega) hLc
                subst ha'
                obtain ⟨nm, hnm, hnl, hns⟩ : ∃ nm : ByteArray, encStr (L.getD (F + k) []) = .string nm ∧ nm.data.toList = L.getD (F + k) [] ∧ nm.size ≤ 2097152 := by
                  refine ⟨⟨(L.getD (F + k) []).toArray⟩, rfl, by simp, ?_⟩
                  show (L.getD (F + k) []).toArray.size ≤ 2097152
                  have hm : L.getD (F + k) [] ∈ L := by
                    rw [List.getD_eq_getElem?_getD, List.getElem?_eq_getElem (by omega)]
                    exact List.getElem_mem _
                  simpa using HL.out.1 _ hm
                rw [hnm] at hcellk
                obtain ⟨r, f, hcp, hf, hr, hrs⟩ := cutPre_any nm p
                have HCP := hid hcp
                have HIN := hid hin
                have HNL := hid hnl
                have HRr := hid hr
                have hkF : Hid (lbOf L p.data.toList + k < L.length) := by rw [← HFe.out]; exact (by omega : F + k < L.length)
                clear hin hnm hnl hcp hr
                cases f with
                | false =>
                  have HST : Hid (L.length ≤ lbOf L p.data.toList + k ∨ (lbOf L p.data.toList + k < L.length ∧ p.data.toList.isPrefixOf (L.getD (lbOf L p.data.toList + k) []) = false)) := by
                    right
                    refine ⟨hkF.out, ?_⟩
                    rw [← HFe.out, ← HNL.out]
                    exact hf.symm
                  clear hf
                  go_wp2_with (go_at_call 35; refine (HCP.out _).mono ?_; rintro e w2 ⟨rfl, hw2⟩; obtain rfl := hw2.symm)
                  go_roundw
                  case rel => exact ⟨i + 1, by omega, by go_num, Outer.step HO.out HW1.out HIN.out HL.out.2 HST.out⟩
                  case measure => simp [intOf]; omega
                | true =>
                  have HF := hid hf
                  clear hf
                  obtain ⟨i0, hi9, hz0, hz1, hz2⟩ := info_parts info9
                  obtain ⟨X, hX⟩ : ∃ X, X = (accOf N B p.data.toList i ++ gotten L p.data.toList k).map encStr := ⟨_, rfl⟩
                  obtain ⟨n, hn⟩ : ∃ n, n = (accOf N B p.data.toList i ++ gotten L p.data.toList k).length := ⟨_, rfl⟩
                  have hnb : n ≤ 3145728 := by
                    have h1 := accOf_length (N := N) (B := B) (p := p.data.toList) (i := i) hlN hlB
                    have h2 := gotten_length (L := L) (p := p.data.toList) (k := k)
                    rw [hn, List.length_append]
                    omega
                  have hown : wr.ownsRow (w.heap.size + 1) 9 1 u5 n X := by rw [hn, hX]; exact HIN.out.1
                  have HXn := hid (And.intro hX hn)
                  clear hX hn
                  obtain ⟨cs, hcs⟩ : ∃ cs : ByteArray, cs = ⟨(firstC r.data.toList).toArray⟩ := ⟨_, rfl⟩
                  have HCu : Hid (∀ wx, Calls Try.prog 36 #[.string r, .string ⟨#[47]⟩] wx fun e w' => ∃ (r2 : ByteArray) (f2 : Bool) (q : Nat), e = .returned (.tuple #[.string cs, .string r2, .bool f2]) ∧ w' = wx.drewN q) := by
                    intro wx
                    rw [hcs]
                    exact cut_any r wx (by omega)
                  have HCs := hid hcs
                  clear hcs
                  go_wp2_with (first
                    | (go_at_call 35; refine (HCP.out _).mono ?_; rintro e w2 ⟨rfl, hw2⟩; obtain rfl := hw2.symm)
                    | (go_at_call 36; refine (HCu.out _).mono ?_; rintro e w3 ⟨r2, f2, q3, rfl, hw3⟩
                       have HW3 := hid hw3
                       have hown3 : w3.ownsRow (w.heap.size + 1) 9 1 u5 n X := by rw [hw3]; exact hown
                       have hs3 : w.heap.size + 1 ≤ w3.heap.size := by rw [hw3]; exact hszr
                       clear hw3)
                    | (at_builtin; refine wpList_append_own _ rfl (.tmp 73) (.tmp 75) 22 rfl (w.heap.size + 1) 9 i0 (.string ⟨#[]⟩) 1 16 Try.underlying22 hi9 hz0 hz1 hz2 rfl (by decide) u5 n X rfl (hown3.alloc _) ⟨w3.heap.size, 0, none⟩ 1 1 [.string cs] rfl rfl (cell_one_new _ _ _) (by intro u hu; simp at hu; subst hu; rfl) (by unfold maxLen; omega) (by omega) (by simp; omega) ?_; intro v' w4 hown4 hgrow4 _))
                  have hb4 : Below (w.heap.size + 1) w1 w4 := by
                    have h3 : Below (w.heap.size + 1) w1 w3 := by rw [HW3.out]; exact below_drewN HIN.out.2.2 _
                    exact (h3.alloc hs3 _).grown hgrow4 (by simp; omega) (block_ge hown3)
                  go_roundw
                  case rel =>
                    refine ⟨k + 1, by omega, by go_num, inner_next (nm := nm.data.toList) (r := r.data.toList) HIN.out HXn.out.2 HXn.out.1 hkF.out (by rw [← HFe.out]; exact HNL.out) HF.out.symm (HRr.out (by trivial)) (by rw [← HCs.out]; exact hown4) hb4⟩
                  case measure => simp [intOf]; omega
              · have HIN := hid hin
                have HST : Hid (L.length ≤ lbOf L p.data.toList + k ∨ (lbOf L p.data.toList + k < L.length ∧ p.data.toList.isPrefixOf (L.getD (lbOf L p.data.toList + k) []) = false)) := by
                  left
                  rw [← HFe.out]
                  omega
                clear hin
                go_wp2
                go_roundw
                case rel => exact ⟨i + 1, by omega, by go_num, Outer.step HO.out HW1.out HIN.out HL.out.2 HST.out⟩
                case measure => simp [intOf]; omega
          · obtain rfl : i = 2 := by omega
            have hnext : accOf N B p.data.toList 2 = compsOf N (preOf ns.data.toList) ++ compsOf B (preOf ns.data.toList) := by
              rw [← HP.out.1]; simp [accOf]
            have HD := hid (sortedSet_any (w.heap.size + 1) u5 _ wr ho.2.2.2.2 ho.2.2.2.1 (Nat.le_trans (accOf_length hlN hlB) (by omega)))
            have HB3 := hid ho.2.2.1
            have HNx := hid hnext
            clear ho hnext
            go_wp2_with (go_at_call 37; refine HD.out.mono ?_; rintro e w5 ⟨v5, rfl, hown5, hbel5⟩; have HE := hid (And.intro hown5 hbel5); clear hown5 hbel5)
            go_ret2
            refine ⟨HB3.out.trans (HE.out.2.mono (by omega)), Or.inr ⟨HA.out, v5, rfl, ?_⟩⟩
            have h := HE.out.1
            rw [HNx.out] at h
            exact own_le h (by omega)
end Go.Proofs.Qxb6600023a
