/-
  sortedSet and ZZSortedSet, by the shelf's contracts of slices.Sort and slices.Compact.
-/
import Derived.Test.Qxb6600023aOwn
import Derived.Test.Qxb6600023aShelf
import Derived.Sort.OwnSorted
import Derived.Sort.Grow
import Derived.Lib.OwnBridge
namespace Go.Proofs.Qxb6600023a
open Go.RowKit Go.Shelf Go.Sort
set_option linter.unusedVariables false

theorem hid {p : Prop} (h : p) : Hid p := h

/-- What sortedSet leaves: the slice that comes back owns the set; below B nothing has turned. -/
def SetLeft (B : Nat) (ss : List (List UInt8)) (w : World) (e : Ending) (w' : World) : Prop := ∃ v, e = .returned v ∧ Own B w' v (setOf ss) ∧ Below B w w'

theorem setOf_nil : setOf [] = [] := by
  cases h : setOf [] with
  | nil => rfl
  | cons a r =>
    have : a ∈ setOf [] := by rw [h]; simp
    rw [mem_setOf] at this
    cases this

/-- THE END, outside the walk: from what the two contracts leave to 'SetLeft' (after the kit's worked Uniq). -/
theorem left_of {B : Nat} {w1 : World} {g cap n nn q : Nat} {os : Array Obj} {ss : List (List UInt8)} (hown : w1.ownsRow B 9 1 (.slice (some ⟨g, 0, none⟩) n cap) n (ss.map encStr)) (hbg : B ≤ g) (hB : B ≤ w1.heap.size) (hlen : ss.length = n) :
    SetLeft B ss w1 (.returned (.slice (some ⟨g, 0, none⟩) (Lib.compact (ss.mergeSort fun x y => decide (x ≤ y))).length cap))
      (putRow encStr (Sort.ahead (grow (putRow encStr (Sort.ahead w1 nn) g 0 (ss.mergeSort fun x y => decide (x ≤ y)).toArray) os) q) g 0 (Lib.compact (ss.mergeSort fun x y => decide (x ≤ y)) ++ List.replicate (n - (Lib.compact (ss.mergeSort fun x y => decide (x ≤ y))).length) []).toArray) := by
  have hl2 : (ss.mergeSort fun x y => decide (x ≤ y)).length = ss.length := List.length_mergeSort ss
  have hle := Lib.compact_length_le (ss.mergeSort fun x y => decide (x ≤ y))
  subst hlen
  rcases hown.2 with ⟨h0, _⟩ | ⟨g', cap', cur, hv, hbase, hb, h1, h2, h3, h4⟩
  · cases h0
  cases hv
  have hs := ownsRow_sorted (n := nn) (os := os) (ts := ss.mergeSort fun x y => decide (x ≤ y)) hl2 hbase hb h1 h2 h3
  have hc := Lib.ownsRow_putRow (q := q) (k := (Lib.compact (ss.mergeSort fun x y => decide (x ≤ y))).length) (ys := Lib.compact (ss.mergeSort fun x y => decide (x ≤ y)) ++ List.replicate (ss.length - (Lib.compact (ss.mergeSort fun x y => decide (x ≤ y))).length) []) hs (by simp; omega) (by omega)
  rw [List.take_left] at hc
  exact ⟨_, rfl, hc, Lib.below_putRow ((Below.refl B w1).grown (grownBy_sorted _) hB (fun j hj => by cases hj; exact hbase)) hbg⟩

set_option maxHeartbeats 2000000 in
theorem sortedSet_any (B : Nat) (v : Value) (ss : List (List UInt8)) (w : World) (hown : Own B w v ss) (hB : B ≤ w.heap.size) (hl : ss.length ≤ 4194304) :
    Calls Try.prog 37 #[v] w (SetLeft B ss w) := by
  by_cases hnn : v = .slice none 0 0
  · subst hnn
    have h0 : ss = [] := by
      rcases hown.2 with ⟨_, h⟩ | ⟨g, cap, cur, h, _⟩
      · exact List.eq_nil_of_length_eq_zero h
      · cases h
    subst h0
    clear hown
    go_enter Try.func37, Try.ntmps37
    go_wp2_with (first
      | (go_at_call 46; refine (Try.slices_Sort_string_none _ _ _).mono ?_; rintro e w' ⟨rfl, hw⟩; obtain rfl := hw.symm)
      | (go_at_call 47; refine (Try.slices_Compact_string_empty _ _ _).mono ?_; rintro e w' ⟨rfl, hw⟩; obtain rfl := hw.symm))
    go_ret
    exact ⟨_, rfl, by rw [setOf_nil]; exact World.ownsRow_nil _ _ _ _, Below.refl _ _⟩
  · obtain ⟨g, cap, rfl, hbg, hgl, hncap, hcm, _, hH⟩ := Lib.holds_of_ownsRow hown hnn
    obtain ⟨n, hlen⟩ : ∃ n, ss.length = n := ⟨_, rfl⟩
    have hsort := Try.slices_Sort_string g 0 cap ss w hH hgl (by omega)
    have hend : ∀ nn os q, SetLeft B ss w (.returned (.slice (some ⟨g, 0, none⟩) (Lib.compact (ss.mergeSort fun x y => decide (x ≤ y))).length cap))
        (putRow encStr (Sort.ahead (grow (putRow encStr (Sort.ahead w nn) g 0 (ss.mergeSort fun x y => decide (x ≤ y)).toArray) os) q) g 0 (Lib.compact (ss.mergeSort fun x y => decide (x ≤ y)) ++ List.replicate (n - (Lib.compact (ss.mergeSort fun x y => decide (x ≤ y))).length) []).toArray) :=
      fun nn os q => left_of (by have h := hown; unfold Own at h; rw [hlen] at h; exact h) hbg hB hlen
    have X : Hid ((∀ nn os q, SetLeft B ss w (.returned (.slice (some ⟨g, 0, none⟩) (Lib.compact (ss.mergeSort fun x y => decide (x ≤ y))).length cap))
        (putRow encStr (Sort.ahead (grow (putRow encStr (Sort.ahead w nn) g 0 (ss.mergeSort fun x y => decide (x ≤ y)).toArray) os) q) g 0 (Lib.compact (ss.mergeSort fun x y => decide (x ≤ y)) ++ List.replicate (n - (Lib.compact (ss.mergeSort fun x y => decide (x ≤ y))).length) []).toArray)) ∧ g < w.heap.size ∧ ss.length = n ∧ Holds encStr w g 0 ss.toArray) := ⟨hend, hgl, hlen, hH⟩
    rw [hlen] at hsort hl hncap
    rw [hlen]
    have HS : Hid (Calls Try.prog 46 #[.slice (some ⟨g, 0, none⟩) n cap] w fun e w' =>
      e = .returned (.tuple #[]) ∧ ∃ n os, w' = grow (putRow encStr (Sort.ahead w n) g 0 (ss.mergeSort fun x y => decide (x ≤ y)).toArray) os) := hsort
    clear hend hown hH hlen hsort hnn
    go_enter Try.func37, Try.ntmps37
    go_wp2_with (first
      | (go_at_call 46; go_must (refine HS.out.mono ?_); rintro e w2 ⟨rfl, nn, os, rfl⟩
         have hl2 : (ss.mergeSort fun x y => decide (x ≤ y)).length = n := by rw [List.length_mergeSort]; exact X.out.2.2.1
         have hH2 : Holds encStr (grow (putRow encStr (Sort.ahead w nn) g 0 (ss.mergeSort fun x y => decide (x ≤ y)).toArray) os) g 0 (ss.mergeSort fun x y => decide (x ≤ y)).toArray :=
           holds_grow encStr _ os g 0 _ (by simpa [putRow, mapBlock, Sort.ahead] using X.out.2.1) (holds_putRow encStr _ g 0 _ _ (holds_ahead encStr w nn g 0 _ X.out.2.2.2) (by simp))
         have hcomp := Try.slices_Compact_string g 0 cap (ss.mergeSort fun x y => decide (x ≤ y)) _ hH2 (by omega) (by omega)
         rw [hl2] at hcomp
         have HC := hid hcomp
         clear hH2 hcomp hl2)
      | (go_at_call 47; refine HC.out.mono ?_; rintro e w3 ⟨rfl, q, rfl⟩))
    go_ret
    exact X.out.1 _ _ _
end Go.Proofs.Qxb6600023a
