/-
  slices.BinarySearch on a sorted list, inNamespace, Holds.
-/
import Derived.Test.Qxb6600023aMake
import Derived.Sort.Walk0
import Derived.Deep.QuietTactic
import Derived.BigQuiet
namespace Go.Proofs.Qxb6600023a
open Go.RowKit Go.Shelf Go.Sort
set_option linter.unusedVariables false

/-- How many elements lie below p. -/
def lbOf (L : List (List UInt8)) (p : List UInt8) : Nat := (L.takeWhile (fun m => decide (m < p))).length

theorem lbOf_le (L : List (List UInt8)) (p : List UInt8) : lbOf L p ≤ L.length := (List.takeWhile_sublist _).length_le

theorem drop_lbOf (L : List (List UInt8)) (p : List UInt8) : L.drop (lbOf L p) = L.dropWhile (fun m => decide (m < p)) := by
  unfold lbOf
  induction L with
  | nil => rfl
  | cons a r ih =>
    by_cases h : a < p
    · rw [List.takeWhile_cons_of_pos (by simpa using h), List.dropWhile_cons_of_pos (by simpa using h)]
      simpa using ih
    · rw [List.takeWhile_cons_of_neg (by simpa using h), List.dropWhile_cons_of_neg (by simpa using h)]
      rfl

theorem low_lt {L : List (List UInt8)} {p : List UInt8} {t : Nat} (h : t < lbOf L p) : L.getD t p < p := by
  have hall := List.all_takeWhile (p := fun m => decide (m < p)) (l := L)
  rw [List.all_eq_true] at hall
  have hm := hall _ (List.getElem_mem h)
  have hp : L.takeWhile (fun m => decide (m < p)) <+: L := List.takeWhile_prefix _
  have := List.IsPrefix.getElem hp h
  have hL : t < L.length := Nat.lt_of_lt_of_le h (lbOf_le L p)
  rw [List.getD_eq_getElem?_getD, List.getElem?_eq_getElem hL, Option.getD_some, ← this]
  simpa using hm

theorem high_ge {L : List (List UInt8)} {p : List UInt8} (hs : L.Pairwise (fun x y => x < y)) {t : Nat} (h : lbOf L p ≤ t) : p ≤ L.getD t p := by
  by_cases hL : t < L.length
  · rw [List.getD_eq_getElem?_getD, List.getElem?_eq_getElem hL, Option.getD_some]
    apply dropWhile_ge hs
    rw [← drop_lbOf]
    rw [List.mem_drop_iff_getElem]
    exact ⟨t - lbOf L p, by omega, by congr 1; omega⟩
  · rw [List.getD_eq_getElem?_getD, List.getElem?_eq_none (by omega)]
    exact List.le_refl _

theorem mem_iff_lb {L : List (List UInt8)} {p : List UInt8} (hs : L.Pairwise (fun x y => x < y)) : (lbOf L p < L.length ∧ L.getD (lbOf L p) p = p) ↔ p ∈ L := by
  constructor
  · rintro ⟨h1, h2⟩
    rw [← h2, List.getD_eq_getElem?_getD, List.getElem?_eq_getElem h1]
    exact List.getElem_mem h1
  · intro h
    have hd : p ∈ L.drop (lbOf L p) := by rw [drop_lbOf]; exact mem_dropWhile_of (List.le_refl _) h
    have hlt : lbOf L p < L.length := by
      rcases Nat.lt_or_ge (lbOf L p) L.length with h1 | h1
      · exact h1
      · rw [List.drop_of_length_le h1] at hd; cases hd
    refine ⟨hlt, ?_⟩
    have hge := high_ge hs (Nat.le_refl (lbOf L p))
    rw [List.getD_eq_getElem?_getD, List.getElem?_eq_getElem hlt, Option.getD_some] at *
    have hsd : (L.drop (lbOf L p)).Pairwise (fun x y => x < y) := List.Pairwise.sublist (List.drop_sublist _ _) hs
    rw [List.drop_eq_getElem_cons hlt] at hd hsd
    rw [List.pairwise_cons] at hsd
    rcases List.mem_cons.1 hd with h1 | h1
    · exact h1.symm
    · exact absurd (hsd.1 p h1) (List.not_lt.2 hge)

/-- The halving finds it. -/
theorem bs_lb {L : List (List UInt8)} (hs : L.Pairwise (fun x y => x < y)) (x : ByteArray) :
    Lib.bsGo (fun t => Op.bytesLess (⟨(L.getD t x.data.toList).toArray⟩ : ByteArray).toList x.toList) L.length 0 L.length = lbOf L x.data.toList := by
  refine Lib.bsGo_spec _ _ (fun t ht => ?_) (fun t ht => ?_) _ _ _ (by omega) (Nat.zero_le _) (lbOf_le _ _)
  · rw [bytesLess_eq, Lib.toList_data, Lib.toList_data]
    simpa using low_lt ht
  · rw [bytesLess_eq, Lib.toList_data, Lib.toList_data]
    simpa using high_ge hs ht

/-- Is x among them? (A name of its own: the walk's simp would take 'contains' apart.) -/
def hasB (L : List (List UInt8)) (x : ByteArray) : Bool := L.contains x.data.toList
/-- Where a search for x ends. -/
def atB (L : List (List UInt8)) (x : ByteArray) : Nat := lbOf L x.data.toList

theorem Reads.draws {w : World} {v : Value} {q : Nat} {ss : List (List UInt8)} (h : Reads w v ss) : Reads (w.drewN q) v ss := h.below (below_drewN (Below.refl _ _) _)

/-- slices.BinarySearch. -/
theorem search_any (v : Value) (L : List (List UInt8)) (x : ByteArray) (w : World) (hr : Reads w v L) (hs : L.Pairwise (fun x y => x < y)) (hl : L.length ≤ 4194304) :
    Calls Try.prog 34 #[v, .string x] w fun e w' => e = .returned (.tuple #[.int .i64 (atB L x : Nat), .bool (hasB L x)]) ∧ ∃ q, w' = w.drewN q := by
  obtain ⟨a, cap, rfl, h1, h2, h3⟩ := hr
  rcases h3 with rfl | ⟨b, rfl, hlt, h3⟩
  · refine (Try.slices_BinarySearch_string_empty a cap x w).mono ?_
    rintro e w' ⟨rfl, hw⟩
    exact ⟨rfl, 0, hw⟩
  · refine (Try.slices_BinarySearch_string b 0 L.length cap (fun t => ⟨(L.getD t x.data.toList).toArray⟩) x w (by omega) (fun j hj => ?_)).mono ?_
    · rw [Nat.zero_add, h3 j hj]
      simp [encStr, List.getD_eq_getElem?_getD, hj]
    · rintro e w' ⟨rfl, q, hw⟩
      refine ⟨?_, q, hw⟩
      rw [bs_lb hs x]
      have hb : decide (lbOf L x.data.toList < L.length ∧ (⟨(L.getD (lbOf L x.data.toList) x.data.toList).toArray⟩ : ByteArray) = x) = L.contains x.data.toList := by
        rw [Bool.eq_iff_iff, decide_eq_true_iff, List.contains_iff_mem, ← mem_iff_lb hs]
        constructor
        · rintro ⟨h5, h6⟩
          refine ⟨h5, ?_⟩
          have := congrArg (fun z : ByteArray => z.data.toList) h6
          simpa using this
        · rintro ⟨h5, h6⟩
          refine ⟨h5, ?_⟩
          apply ByteArray.ext
          apply Array.toList_inj.1
          simpa using h6
      rw [hb]
      rfl

/-! ### inNamespace -/
/-- No namespace opens nm among its first k bytes. -/
def NoNS (B : List (List UInt8)) (nm : ByteArray) (k : Nat) : Prop := ∀ i, i < k → ¬ (nm.data.toList[i]? = some 47 ∧ nm.data.toList.take (i + 1) ∈ B)
theorem NoNS.none (B : List (List UInt8)) (nm : ByteArray) : NoNS B nm 0 := fun i hi => by omega
theorem NoNS.next {B : List (List UInt8)} {nm : ByteArray} {k : Nat} (h : NoNS B nm k) (hk : ¬ (nm.data.toList[k]? = some 47 ∧ nm.data.toList.take (k + 1) ∈ B)) : NoNS B nm (k + 1) := fun i hi => by
  by_cases e : i = k
  · subst e; exact hk
  · exact h i (by omega)
theorem NoNS.all {B : List (List UInt8)} {nm : ByteArray} (h : NoNS B nm nm.size) : inNS B nm.data.toList = false := by
  rw [← Bool.not_eq_true, inNS_iff]
  rintro ⟨i, h1, h2⟩
  have hi : i < nm.size := by have := (List.getElem?_eq_some_iff.1 h1).1; simpa using this
  exact h i hi ⟨h1, h2⟩
theorem at_byte (nm : ByteArray) (k : Nat) (h : k < nm.size) : nm.data.toList[k]? = some nm[k] := by
  rw [List.getElem?_eq_getElem (by simpa using h)]; rfl

set_option maxHeartbeats 1000000 in
theorem inNS_any (g : Nat) (ev : Bool) (N B : List (List UInt8)) (nm : ByteArray) (w : World) (hset : IsSet w g ev N B) (hs : B.Pairwise (fun x y => x < y)) (hl : B.length ≤ 4194304) (hnm : nm.size ≤ 4194304) :
    Calls Try.prog 33 #[.pointer (some ⟨g, 0, none⟩), .string nm] w fun e w' => e = .returned (.bool (inNS B nm.data.toList)) ∧ ∃ q, w' = w.drewN q := by
  obtain ⟨v1, v2, h0, h1, h2, h3, h4⟩ := hset
  have HR := hid h4
  have HSo := hid hs
  clear h0 h1 h3 h4 hs
  go_enter Try.func33, Try.ntmps33
  go_wp2
  go_loopw [10] (fun i wr => ∃ k q : Nat, k ≤ nm.size ∧ i = .int .i64 k ∧ wr = w.drewN q ∧ NoNS B nm k) (fun i _ => nm.size - (intOf i).toNat)
  case atStart => exact ⟨0, 0, Nat.zero_le _, rfl, rfl, NoNS.none _ _⟩
  case round =>
    obtain ⟨k, q, hk, rfl, hwr, hno⟩ := hrel
    have hcell : wr.cell? ⟨g, 2, none⟩ = some v2 := by rw [hwr]; simpa using h2
    have HR' : Hid (Reads wr v2 B) := by rw [hwr]; exact HR.out.draws
    have HW := hid hwr
    clear hwr h2
    by_cases hlt : k < nm.size
    · have HN := hid hno
      clear hno
      by_cases hsl : nm[k] = 47
      · have hb : ((nm[k].toNat : Int) != 47) = false := by rw [hsl]; rfl
        have hk1 : (k : Int) + 1 ≤ (nm.size : Int) := by omega
        have hk0 : (0 : Int) ≤ (k : Int) + 1 := by omega
        have hwrap : IntKind.i64.wrap ((k : Int) + 1) = (k : Int) + 1 := by rw [IntKind.wrap_i64]; omega
        have hx : (nm.extract 0 (k + 1)).data.toList = nm.data.toList.take (k + 1) := by rw [Lib.extract_data]; simp
        have HX : Hid ((hasB B (nm.extract 0 (k + 1)) = true → inNS B nm.data.toList = true) ∧ (hasB B (nm.extract 0 (k + 1)) = false → NoNS B nm (k + 1))) := by
          unfold hasB
          rw [hx]
          refine ⟨fun h => inNS_iff.2 ⟨k, by rw [at_byte nm k hlt, hsl], by simpa using h⟩, fun h => HN.out.next (fun h' => ?_)⟩
          have := h'.2
          rw [← List.contains_iff_mem] at this
          rw [h] at this
          cases this
        clear hsl hx HN
        go_wp2_with fail
        go_quiet ((go_at_call 34; refine Calls.quiet_of (search_any v2 B _ _ ?_ HSo.out hl); exact HR'.out.draws))
        cases hc : hasB B (nm.extract 0 (k + 1)) with
        | true =>
          have HY := hid (HX.out.1 hc)
          clear HX
          go_wp2
          go_ret
          exact ⟨ret_bool HY.out.symm, q + nq, by rw [HW.out, World.drewN_drewN]⟩
        | false =>
          have HY := hid (HX.out.2 hc)
          clear HX
          go_wp2
          go_roundw
          case rel => exact ⟨k + 1, q + nq, by omega, by go_num, by rw [HW.out, World.drewN_drewN], HY.out⟩
          case measure => simp [intOf]; omega
      · have hb : ((nm[k].toNat : Int) != 47) = true := by
          simp
          intro h
          apply hsl
          apply UInt8.toNat.inj
          show nm[k].toNat = 47
          omega
        have HX := hid (HN.out.next (fun h => hsl (by have := h.1; rw [at_byte nm k hlt] at this; simpa using this)))
        clear hsl HN
        go_wp2
        go_roundw
        case rel => exact ⟨k + 1, q, by omega, by go_num, HW.out, HX.out⟩
        case measure => simp [intOf]; omega
    · obtain rfl : k = nm.size := by omega
      have HX := hid hno.all
      clear hno
      go_wp2
      go_ret
      exact ⟨ret_bool HX.out.symm, q, HW.out⟩
end Go.Proofs.Qxb6600023a
