/-
  ZZNameSet, b1Set.
-/
import Derived.Test.Qxb6600023aSet
namespace Go.Proofs.Qxb6600023a
open Go.RowKit Go.Shelf Go.Sort
set_option linter.unusedVariables false

set_option maxHeartbeats 400000 in
theorem nameSet_any (ev : Bool) (a1 a2 : Option Addr) (n1 c1 n2 c2 : Nat) (w : World) :
    Calls Try.prog 32 #[.bool ev, .slice a1 n1 c1, .slice a2 n2 c2] w fun e w' => e = .returned (.pointer (some ⟨w.heap.size, 0, none⟩)) ∧ w' = w.alloc (.cells #[.bool ev, .slice a1 n1 c1, .slice a2 n2 c2] 43) := by
  go_enter Try.func32, Try.ntmps32
  go_wp2
  go_ret
  exact ⟨rfl, rfl⟩

set_option maxHeartbeats 400000 in
theorem sortedSet31_any (B : Nat) (v : Value) (ss : List (List UInt8)) (w : World) (hown : Own B w v ss) (hB : B ≤ w.heap.size) (hl : ss.length ≤ 4194304) :
    Calls Try.prog 31 #[v] w (SetLeft B ss w) := by
  have HC := hid (sortedSet_any B v ss w hown hB hl)
  clear hown
  go_enter Try.func31, Try.ntmps31
  go_wp2_with (go_at_call 37; refine HC.out.mono ?_; rintro e w2 ⟨v', rfl, hown', hbel'⟩; have X := hid (And.intro hown' hbel'); clear hown' hbel')
  go_ret
  exact ⟨_, rfl, X.out.1, X.out.2⟩

/-! ### reading what the call has made -/
theorem Strs.below {w w' : World} {a : Option Addr} {n : Nat} {S : Nat → ByteArray} (h : Strs w a n S) (hb : Below w.heap.size w w') : Strs w' a n S := by
  rcases h with h | ⟨b, off, rfl, h⟩
  · exact Or.inl h
  · exact Or.inr ⟨b, off, rfl, fun j hj => (hb.cell (lt_of_cell (h j hj))).trans (h j hj)⟩

/-- A slice value that reads as the strings ss. -/
def Reads (w : World) (v : Value) (ss : List (List UInt8)) : Prop :=
  ∃ a cap, v = .slice a ss.length cap ∧ ss.length ≤ cap ∧ cap ≤ maxLen ∧ (ss = [] ∨ ∃ b, a = some ⟨b, 0, none⟩ ∧ b < w.heap.size ∧ ∀ j, j < ss.length → w.cell? ⟨b, j, none⟩ = some (encStr (ss.getD j [])))

theorem Reads.below {w w' : World} {v : Value} {ss : List (List UInt8)} (h : Reads w v ss) (hb : Below w.heap.size w w') : Reads w' v ss := by
  obtain ⟨a, cap, rfl, h1, h2, h3⟩ := h
  refine ⟨a, cap, rfl, h1, h2, ?_⟩
  rcases h3 with h3 | ⟨b, rfl, hlt, h3⟩
  · exact Or.inl h3
  · exact Or.inr ⟨b, rfl, Nat.lt_of_lt_of_le hlt hb.size, fun j hj => (hb.cell (by exact hlt)).trans (h3 j hj)⟩

theorem Own.reads {B : Nat} {w : World} {v : Value} {ss : List (List UInt8)} (h : Own B w v ss) : Reads w v ss := by
  by_cases hnn : v = .slice none 0 0
  · subst hnn
    have h0 : ss = [] := by
      rcases h.2 with ⟨_, h⟩ | ⟨g, cap, cur, h, _⟩
      · exact List.eq_nil_of_length_eq_zero h
      · cases h
    subst h0
    exact ⟨none, 0, rfl, Nat.le_refl _, by unfold maxLen; omega, Or.inl rfl⟩
  · obtain ⟨g, cap, rfl, hbg, hgl, hncap, hcm, _, hH⟩ := Lib.holds_of_ownsRow h hnn
    refine ⟨_, cap, rfl, hncap, hcm, Or.inr ⟨g, rfl, hgl, fun j hj => ?_⟩⟩
    have := (hH j (by simpa using hj)).1
    rw [Nat.zero_add] at this
    rw [this]
    simp [getElem!_pos, hj, List.getD_eq_getElem?_getD]

/-- The NameSet behind a pointer. -/
def IsSet (w : World) (g : Nat) (ev : Bool) (N B : List (List UInt8)) : Prop :=
  ∃ v1 v2, w.cell? ⟨g, 0, none⟩ = some (.bool ev) ∧ w.cell? ⟨g, 1, none⟩ = some v1 ∧ w.cell? ⟨g, 2, none⟩ = some v2 ∧ Reads w v1 N ∧ Reads w v2 B

theorem IsSet.below {w w' : World} {g : Nat} {ev : Bool} {N B : List (List UInt8)} (h : IsSet w g ev N B) (hb : Below w.heap.size w w') : IsSet w' g ev N B := by
  obtain ⟨v1, v2, h0, h1, h2, h3, h4⟩ := h
  have hlt := lt_of_cell h0
  exact ⟨v1, v2, (hb.cell hlt).trans h0, (hb.cell hlt).trans h1, (hb.cell hlt).trans h2, h3.below hb, h4.below hb⟩

theorem IsSet.draws {w : World} {g q : Nat} {ev : Bool} {N B : List (List UInt8)} (h : IsSet w g ev N B) : IsSet (w.drewN q) g ev N B :=
  h.below (below_drewN (Below.refl _ _) _)

/-! ### b1Set -/
/-- Each namespace with its slash. -/
def nsOf (n : Nat) (S : Nat → ByteArray) : List (List UInt8) := (strsOf n S).map fun l => l ++ [47]
theorem nsOf_length (n : Nat) (S : Nat → ByteArray) : (nsOf n S).length = n := by simp [nsOf, strsOf]
theorem nsOf_succ (n : Nat) (S : Nat → ByteArray) : nsOf (n + 1) S = nsOf n S ++ [(S n).data.toList ++ [47]] := by simp [nsOf, strsOf, List.range_succ]
theorem slash_back (s : ByteArray) : s ++ ⟨#[47]⟩ = ⟨(s.data.toList ++ [47]).toArray⟩ := by
  apply ByteArray.ext
  apply Array.toList_inj.1
  simp

theorem ns_next {base k : Nat} {w : World} {v' : Value} {S : Nat → ByteArray} (h : w.ownsRow base 9 1 v' ((nsOf k S).length + 1) ((nsOf k S).map encStr ++ [.string (S k ++ ⟨#[47]⟩)])) : Own base w v' (nsOf (k + 1) S) := by
  unfold Own
  rw [nsOf_succ, List.length_append, List.map_append]
  rw [slash_back] at h
  exact h

theorem block_ge {w : World} {base e size n : Nat} {v : Value} {xs : List Value} (h : w.ownsRow base e size v n xs) : ∀ k, v.ownBlock = some k → base ≤ k := by
  intro k hk
  rcases h.2 with ⟨rfl, _⟩ | ⟨g, cap, cur, rfl, hb, _⟩
  · cases hk
  · simp [Value.ownBlock] at hk
    omega

/-- What b1Set leaves. -/
def SetMade (ev : Bool) (N B : List (List UInt8)) (w : World) (e : Ending) (w' : World) : Prop := ∃ g, e = .returned (.pointer (some ⟨g, 0, none⟩)) ∧ IsSet w' g ev N B ∧ Below w.heap.size w w'

set_option maxHeartbeats 2000000 in
theorem set_any (ev : Bool) (a1 a2 : Option Addr) (n1 c1 n2 c2 : Nat) (S1 S2 : Nat → ByteArray) (w : World) (hn1 : n1 ≤ 1048576) (hn2 : n2 ≤ 1048576) (hS1 : Strs w a1 n1 S1) (hS2 : Strs w a2 n2 S2) (hs2 : Short n2 S2) :
    Calls Try.prog 14 #[.bool ev, .slice a1 n1 c1, .slice a2 n2 c2] w (SetMade ev (setOf (strsOf n1 S1)) (setOf (nsOf n2 S2)) w) := by
  obtain ⟨i0, hi, hz0, hz1, hz2⟩ := info_parts info9
  have HC := hid (clone_any a1 n1 c1 S1 w hn1 hS1)
  have HS2 := hid hS2
  clear hS1 hS2
  go_enter Try.func14, Try.ntmps14
  go_wp2_with (first
    | (go_at_call 13; refine HC.out.mono ?_; rintro e w1 ⟨v1, rfl, hown1, hbel1⟩
       have HD := hid (sortedSet31_any w.heap.size v1 _ w1 hown1 hbel1.size (by rw [strsOf_length]; omega))
       have HB1 := hid hbel1
       clear hown1 hbel1)
    | (go_at_call 31; refine HD.out.mono ?_; rintro e w2 ⟨v2, rfl, hown2, hbel2⟩
       have HE := hid (And.intro hown2.reads (HB1.out.trans hbel2))
       clear hown2 hbel2 HD HB1 HC)
    | (at_make; refine wpList_make_own _ rfl (.const (.int .i64 0)) (.tmp 14) 22 rfl w2.heap.size 9 i0 (.string ⟨#[]⟩) 1 Try.underlying22 hi hz0 hz1 .i64 .i64 _ n2 rfl rfl rfl (by rw [hz2]; omega) (by unfold maxLen; omega) (Nat.le_refl _) ?_; intro w3 hown3 hgrow3))
  have hbel3 : Below w2.heap.size w2 w3 := (Below.refl _ _).grown hgrow3 (Nat.le_refl _) (fun k hk => by cases hk)
  have hown3' : Own w2.heap.size w3 (.slice (some ⟨w2.heap.size, 0, none⟩) 0 n2) (nsOf 0 S2) := hown3
  clear hown3 hgrow3
  have hw2 : w.heap.size ≤ w2.heap.size := HE.out.2.size
  go_loopw [8, 9] (fun v i wr => ∃ k : Nat, k ≤ n2 ∧ i = .int .i64 k ∧ Own w2.heap.size wr v (nsOf k S2) ∧ Below w2.heap.size w2 wr) (fun _ i _ => n2 - (intOf i).toNat)
  case atStart => exact ⟨0, Nat.zero_le _, rfl, hown3', hbel3⟩
  case round =>
    obtain ⟨k, hk, rfl, hown, hbel⟩ := hrel
    clear hown3' hbel3
    have hwr : w2.heap.size ≤ wr.heap.size := hbel.size
    by_cases hlt : k < n2
    · obtain ⟨b, off, rfl, hcell0⟩ := HS2.out.at hlt
      have hcell : wr.cell? ⟨b, off + k, none⟩ = some (.string (S2 k)) := by
        have h1 : b < w.heap.size := lt_of_cell hcell0
        rw [hbel.cell (by show b < _; omega), HE.out.2.cell (by exact h1)]
        exact hcell0
      have hsz := hs2 k hlt
      have HN : Hid (∀ v' w', w'.ownsRow w2.heap.size 9 1 v' ((nsOf k S2).length + 1) ((nsOf k S2).map encStr ++ [.string (S2 k ++ ⟨#[47]⟩)]) → Own w2.heap.size w' v' (nsOf (k + 1) S2)) := fun v' w' h => ns_next h
      have hown' : wr.ownsRow w2.heap.size 9 1 u8 (nsOf k S2).length ((nsOf k S2).map encStr) := hown
      have hkl : (nsOf k S2).length ≤ 1048576 := by rw [nsOf_length]; omega
      have HB := hid hbel
      clear hown hbel hcell0
      generalize hL : (nsOf k S2).length = L at hown' HN hkl
      generalize hX : (nsOf k S2).map encStr = X at hown' HN
      generalize hs : S2 k = s at hcell hsz HN
      clear hL hX hs
      go_wp2_with (at_builtin; refine wpList_append_own _ rfl (.tmp 22) (.tmp 28) 22 rfl w2.heap.size 9 i0 (.string ⟨#[]⟩) 1 16 Try.underlying22 hi hz0 hz1 hz2 rfl (by decide) u8 L X rfl (hown'.alloc _) ⟨wr.heap.size, 0, none⟩ 1 1 [.string (s ++ ⟨#[47]⟩)] rfl rfl (cell_one_new _ _ _) (by intro u hu; simp at hu; subst hu; rfl) (by unfold maxLen; omega) (by omega) (by simp; omega) ?_; intro v' w4 hown4 hgrow4 _)
      go_roundw
      case rel => exact ⟨k + 1, by omega, by go_num, HN.out _ _ hown4, (HB.out.alloc hwr _).grown hgrow4 (by simp; omega) (block_ge hown')⟩
      case measure => simp [intOf]; omega
    · obtain rfl : k = n2 := by omega
      have HD := hid (sortedSet31_any w2.heap.size u8 _ wr hown hwr (by rw [nsOf_length]; omega))
      have HB := hid hbel
      clear hown hbel
      go_wp2_with (first
        | (go_at_call 31; refine HD.out.mono ?_; rintro e w5 ⟨v5, rfl, hown5, hbel5⟩
           have HF := hid (And.intro hown5.reads (And.intro (HE.out.1.below (HB.out.trans hbel5)) (HE.out.2.trans ((HB.out.trans hbel5).mono hw2))))
           clear hown5 hbel5 HD HB
           obtain ⟨a5, c5, hv5, _⟩ := HF.out.1
           obtain ⟨a2', c2', hv2, _⟩ := HE.out.1
           subst hv5
           subst hv2)
        | (go_at_call 32; refine (nameSet_any _ _ _ _ _ _ _ _).mono ?_; rintro e w6 ⟨rfl, hw6⟩; subst hw6))
      go_ret
      have hal : Below w5.heap.size w5 (w5.alloc (.cells #[.bool ev, .slice a2' (setOf (strsOf n1 S1)).length c2', .slice a5 (setOf (nsOf k S2)).length c5] 43)) := (Below.refl _ _).alloc (Nat.le_refl _) _
      exact ⟨_, rfl, ⟨_, _, by simp, by simp, by simp, HF.out.2.1.below hal, HF.out.1.below hal⟩, HF.out.2.2.alloc HF.out.2.2.size _⟩
end Go.Proofs.Qxb6600023a
