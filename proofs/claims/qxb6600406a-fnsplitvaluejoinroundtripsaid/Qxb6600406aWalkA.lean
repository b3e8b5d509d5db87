/-
  THE WALK of FnSplitValueJoinRoundTrip.
-/
import Derived.Test.Qxb6600406aPart
import Derived.OpenShut
import Derived.Laws.CopyOwn
namespace Go.Proofs.Qxb6600406a
open Go.ChangeShapes Go.WideShapes Go.RowKit
set_option linter.unusedVariables false

/-- WHAT THE WALK IS TOLD OF A SLICE OF INTEGERS THAT CAME IN: it is nil; or it leads to a row of 'cap' cells, the numbers 'zs' (the first 'len' are its elements, the rest its spare room), each fitting its kind. -/
def IsRow (k : IntKind) (w : World) (a : Option Addr) (len cap : Nat) (zs : List Int) : Prop :=
  (a = none ∧ len = 0 ∧ cap = 0 ∧ zs = []) ∨
  ∃ x, a = some x ∧ len ≤ cap ∧ cap ≤ maxLen ∧ zs.length = cap ∧ (∀ i, i < zs.length → w.cell? (x.add i) = some (.int k (zs.getD i 0))) ∧ ∀ n ∈ zs, (Lit.int k n).wf = true

/-! ### STEP 1: THE WALK -/
theorem byts_of {w : World} {a : Option Addr} {n c : Nat} {zs : List Int} (h : IsRow .u8 w a n c zs) : Byts w a n (fun j => zs.getD j 0) := by
  rcases h with ⟨rfl, rfl, rfl, rfl⟩ | ⟨x, rfl, hl, hm, hz, hcell, _⟩
  · exact Or.inl rfl
  · by_cases h0 : n = 0
    · exact Or.inl h0
    · obtain ⟨b, off, rfl, hc⟩ := ints_at hcell (by omega)
      exact Or.inr ⟨b, off, rfl, fun j hj => hc j (by omega)⟩

theorem len_of {w : World} {a : Option Addr} {n c : Nat} {zs : List Int} (h : IsRow .u8 w a n c zs) : n ≤ maxLen ∧ n ≤ zs.length := by
  rcases h with ⟨rfl, rfl, rfl, rfl⟩ | ⟨x, rfl, hl, hm, hz, hcell, _⟩
  · exact ⟨Nat.zero_le _, Nat.zero_le _⟩
  · exact ⟨by omega, by omega⟩

theorem range_of {w : World} {a : Option Addr} {n c : Nat} {zs : List Int} (h : IsRow .u8 w a n c zs) : ∀ z ∈ zs, 0 ≤ z ∧ z < 256 := by
  rcases h with ⟨rfl, rfl, rfl, rfl⟩ | ⟨x, rfl, hl, hm, hz, hcell, hw⟩
  · intro z hz; cases hz
  · intro z hz
    have := bounds_u8 (hw z hz)
    omega

/-- No zero among the first k. -/
def NoZ (k : Nat) (Z : Nat → Int) : Prop := ∀ j, j < k → Z j ≠ 0
theorem NoZ.none (Z : Nat → Int) : NoZ 0 Z := fun j hj => by omega
theorem NoZ.next {k : Nat} {Z : Nat → Int} (h : NoZ k Z) (hk : (Z k == 0) = false) : NoZ (k + 1) Z := fun j hj => by
  by_cases e : j = k
  · subst e; simpa using hk
  · exact h j (by omega)

/-- The bytes of a slice, as cells and as numbers. -/
def cellsOf (n : Nat) (Z : Nat → Int) : List Value := (List.range n).map fun j => .int .u8 (Z j)
def numsOf (n : Nat) (Z : Nat → Int) : List Int := (List.range n).map Z

theorem cellsOf_length (n : Nat) (Z : Nat → Int) : (cellsOf n Z).length = n := by simp [cellsOf]
theorem cellsOf_one (n : Nat) (Z : Nat → Int) : ∀ v ∈ cellsOf n Z, v.oneCell' = true := by
  intro v hv
  obtain ⟨j, _, rfl⟩ := List.mem_map.1 hv
  rfl
theorem cellsOf_src {w w' : World} {a : Option Addr} {n : Nat} {Z : Nat → Int} (h : Byts w a n Z) (hb : Below w.heap.size w w') (hp : 0 < (cellsOf n Z).length) :
    ∃ ad, a = some ad ∧ ∀ j v, (cellsOf n Z)[j]? = some v → w'.cell? (ad.add j) = some v := by
  rw [cellsOf_length] at hp
  rcases h with h | ⟨b, off, rfl, h⟩
  · omega
  · refine ⟨_, rfl, fun j v hj => ?_⟩
    have hjn : j < n := by
      have := (List.getElem?_eq_some_iff.1 hj).1
      simpa [cellsOf] using this
    have hv : v = .int .u8 (Z j) := by
      simp [cellsOf, hjn] at hj
      exact hj.symm
    have hlt : b < w.heap.size := by
      have h0 := h j hjn
      rcases Nat.lt_or_ge b w.heap.size with h1 | h1
      · exact h1
      · exfalso
        have : w.heap[b]? = none := Array.getElem?_eq_none h1
        simp [World.cell?, this] at h0
    rw [add_plain, hv, hb.cell (by exact hlt)]
    exact h j hjn

theorem spliced (n0 n1 : Nat) (Z0 Z1 : Nat → Int) : splice (splice (List.replicate (n0 + n1) (Value.int .u8 0)) 0 (cellsOf n0 Z0)) n0 (cellsOf n1 Z1) = cellsOf n0 Z0 ++ cellsOf n1 Z1 := by
  unfold splice
  simp only [List.take_zero, List.nil_append, Nat.zero_add, cellsOf_length, List.drop_replicate]
  rw [List.take_append_of_le_length (by rw [cellsOf_length]; exact Nat.le_refl _), List.take_of_length_le (by rw [cellsOf_length]; exact Nat.le_refl _)]
  rw [List.drop_of_length_le (by simp [cellsOf_length])]
  simp

theorem row_cells {w : World} {g n0 n1 : Nat} {Z0 Z1 : Nat → Int} (h : w.heap[g]? = some (.cells (cellsOf n0 Z0 ++ cellsOf n1 Z1).toArray 5 (0, 0))) :
    ∀ i, i < n0 + n1 → w.cell? ⟨g, 0 + i, none⟩ = some (.int .u8 ((numsOf n0 Z0 ++ numsOf n1 Z1).getD i 0)) := by
  intro i hi
  rw [cell_of_row w g (0 + i) _ _ _ h]
  have e : cellsOf n0 Z0 ++ cellsOf n1 Z1 = (numsOf n0 Z0 ++ numsOf n1 Z1).map (Value.int .u8) := by simp [cellsOf, numsOf, Function.comp_def]
  rw [e]
  have hl : i < (numsOf n0 Z0 ++ numsOf n1 Z1).length := by simp [numsOf]; omega
  simp only [Nat.zero_add, List.getElem?_toArray, List.getElem?_map, List.getElem?_eq_getElem hl, Option.map_some, List.getD_eq_getElem?_getD, Option.getD_some]

theorem row_left {w : World} {g n0 n1 : Nat} {Z0 Z1 : Nat → Int} (h : w.heap[g]? = some (.cells (cellsOf n0 Z0 ++ cellsOf n1 Z1).toArray 5 (0, 0))) : Byts w (some ⟨g, 0, none⟩) n0 Z0 := by
  refine Or.inr ⟨g, 0, rfl, fun j hj => ?_⟩
  rw [row_cells h j (by omega), List.getD_eq_getElem?_getD, List.getElem?_append_left (by simpa [numsOf] using hj)]
  simp [numsOf, hj]

theorem row_right {w : World} {g n0 n1 : Nat} {Z0 Z1 : Nat → Int} (h : w.heap[g]? = some (.cells (cellsOf n0 Z0 ++ cellsOf n1 Z1).toArray 5 (0, 0))) : Byts w (some ⟨g, n0, none⟩) n1 Z1 := by
  refine Or.inr ⟨g, n0, rfl, fun j hj => ?_⟩
  have := row_cells h (n0 + j) (by omega)
  rw [Nat.zero_add] at this
  rw [this]
  simp [numsOf, hj]

theorem Byts.below {w w' : World} {a : Option Addr} {n : Nat} {Z : Nat → Int} (h : Byts w a n Z) (hb : Below w.heap.size w w') : Byts w' a n Z := by
  rcases h with h | ⟨b, off, rfl, h⟩
  · exact Or.inl h
  · refine Or.inr ⟨b, off, rfl, fun j hj => ?_⟩
    have h0 := h j hj
    have hlt : b < w.heap.size := by
      rcases Nat.lt_or_ge b w.heap.size with h1 | h1
      · exact h1
      · exfalso
        have : w.heap[b]? = none := Array.getElem?_eq_none h1
        simp [World.cell?, this] at h0
    rw [hb.cell (by exact hlt)]
    exact h0

theorem Byts.draws {w : World} {a : Option Addr} {n q : Nat} {Z : Nat → Int} (h : Byts w a n Z) : Byts (w.drewN q) a n Z := by
  rcases h with h | ⟨b, off, rfl, h⟩
  · exact Or.inl h
  · exact Or.inr ⟨b, off, rfl, fun j hj => by simpa using h j hj⟩

/-- What the search finds in the joined row. -/
theorem found {n0 n1 : Nat} {Z0 Z1 : Nat → Int} (h0 : NoZ n0 Z0) (hr : ∀ j, j < n0 → 0 ≤ Z0 j ∧ Z0 j < 256) (h1 : n1 = 0 ∨ Z1 0 = 0) :
    Lib.indexByte (Lib.bytesOf (numsOf n0 Z0 ++ numsOf n1 Z1)) 0 = if n1 = 0 then -1 else (n0 : Int) := by
  have e : Lib.bytesOf (numsOf n0 Z0 ++ numsOf n1 Z1) = Lib.bytesOf (numsOf n0 Z0) ++ Lib.bytesOf (numsOf n1 Z1) := by simp [Lib.bytesOf]
  rw [e, first_zero]
  · have : Lib.bytesOf (numsOf n1 Z1) = [] ↔ n1 = 0 := by simp [Lib.bytesOf, numsOf]
    simp only [this]
    simp [Lib.bytesOf, numsOf]
  · intro x hx
    simp only [Lib.bytesOf, numsOf, List.map_map, List.mem_map, List.mem_range] at hx
    obtain ⟨j, hj, rfl⟩ := hx
    have h2 := hr j hj
    have h3 := h0 j hj
    intro h4
    have h5 := congrArg UInt8.toNat h4
    simp at h5
    omega
  · rcases h1 with rfl | h1
    · left; simp [Lib.bytesOf, numsOf]
    · cases n1 with
      | zero => left; simp [Lib.bytesOf, numsOf]
      | succ m =>
        right
        refine ⟨Lib.bytesOf ((List.range m).map fun j => Z1 (j + 1)), ?_⟩
        simp [Lib.bytesOf, numsOf, List.range_succ_eq_map, h1]

/-- A made row, whole. -/
theorem made_block {w : World} {B g n : Nat} (h : w.ownsRow B 5 1 (.slice (some ⟨g, 0, none⟩) n n) n (madeCells (Value.int .u8 0).cells (n * 1)).toList) :
    w.heap[g]? = some (.cells (List.replicate n (Value.int .u8 0)).toArray 5 (0, 0)) := by
  have e : (madeCells (Value.int .u8 0).cells (n * 1)).toList = List.replicate n (Value.int .u8 0) := by rw [Nat.mul_one]; exact toList_madeCells_one _ _
  rw [e] at h
  rcases h.2 with ⟨h', _⟩ | ⟨g', cap', cur, h', _, hg, _, _, hs, htake⟩
  · cases h'
  · cases h'
    rw [hg]
    have : cur = (List.replicate n (Value.int .u8 0)).toArray := by
      apply Array.toList_inj.1
      rw [← htake, List.take_of_length_le (by simp [hs])]
    rw [this]

theorem info5 : (Try.prog.info? 5).map (fun i => (i.zero, i.size, i.bytes)) = some (some (.int .u8 0), 1, 1) := by kernel_rfl

set_option maxHeartbeats 1000000 in
theorem walk (a0 : Option Addr) (len0 cap0 : Nat) (z0 : List Int) (a1 : Option Addr) (len1 cap1 : Nat) (z1 : List Int) (w : World) (w0 : IsRow .u8 w a0 len0 cap0 z0) (w1 : IsRow .u8 w a1 len1 cap1 z1) :
    Calls Try.prog 7 #[.slice a0 len0 cap0, .slice a1 len1 cap1] w fun e w' => e = .returned (.bool true) ∧ Below w.heap.size w w' := by
  have hl0 := len_of w0
  have hl1 := len_of w1
  by_cases htot : 1048576 < len0 + len1
  · have hs := small_no a0 a1 len0 cap0 len1 cap1 w htot hl0.1 hl1.1
    have HS : Hid (Calls Try.prog 11 #[.slice a0 len0 cap0, .slice a1 len1 cap1] w fun e w' => e = .returned (.bool false) ∧ w' = w) := hs
    clear hs w0 w1 hl0 hl1
    go_enter Try.func7, Try.ntmps7
    go_wp2_with (go_at_call 11; refine HS.out.mono ?_; rintro e w' ⟨rfl, rfl⟩)
    go_ret
    exact ⟨rfl, Below.refl _ _⟩
  have HB0 : Hid (Byts w a0 len0 (fun j => z0.getD j 0)) := byts_of w0
  have HB1 : Hid (Byts w a1 len1 (fun j => z1.getD j 0)) := byts_of w1
  obtain ⟨Z0, hZ0⟩ : ∃ Z0 : Nat → Int, Z0 = fun j => z0.getD j 0 := ⟨_, rfl⟩
  obtain ⟨Z1, hZ1⟩ : ∃ Z1 : Nat → Int, Z1 = fun j => z1.getD j 0 := ⟨_, rfl⟩
  rw [← hZ0] at HB0
  rw [← hZ1] at HB1
  have HX : Hid (IsRow .u8 w a0 len0 cap0 z0 ∧ IsRow .u8 w a1 len1 cap1 z1 ∧ (Z0 = fun j => z0.getD j 0) ∧ (Z1 = fun j => z1.getD j 0)) := ⟨w0, w1, hZ0, hZ1⟩
  clear w0 w1 hl0 hl1 hZ0 hZ1
  go_enter Try.func7, Try.ntmps7
  go_wp2_with (go_at_call 11; refine (small_yes _ _ _ _ _ _ _ (by omega)).mono ?_; rintro e w' ⟨rfl, hw⟩; obtain rfl := hw.symm)
  go_loop [5] (fun i => ∃ k : Nat, k ≤ len0 ∧ i = .int .i64 k ∧ NoZ k Z0) (fun i => len0 - (intOf i).toNat)
  case atStart => exact ⟨0, Nat.zero_le _, rfl, NoZ.none _⟩
  case round =>
    obtain ⟨k, hk, rfl, hno⟩ := hrel
    by_cases hlt : k < len0
    · obtain ⟨b, off, rfl, hcell⟩ := HB0.out.at hlt
      have HN : Hid ((Z0 k == 0) = false → NoZ (k + 1) Z0) := hno.next
      clear hno
      generalize Z0 k = z at hcell HN
      go_wp2
      · go_ret
        exact ⟨rfl, Below.refl _ _⟩
      · go_round
        case rel => exact ⟨k + 1, by omega, by go_num, HN.out (by assumption)⟩
        case measure => simp [intOf]; omega
    · have HN : Hid (NoZ len0 Z0) := by obtain rfl : k = len0 := by omega
                                        exact hno
      clear hno
      have HR : Hid (∀ j, j < len0 → 0 ≤ Z0 j ∧ Z0 j < 256) := by
        intro j hj
        obtain ⟨w0, w1, e0, e1⟩ := HX.out
        rw [e0]
        have hjl : j < z0.length := by have := (len_of w0).2; omega
        show 0 ≤ z0.getD j 0 ∧ z0.getD j 0 < 256
        rw [List.getD_eq_getElem?_getD, List.getElem?_eq_getElem hjl]
        exact range_of w0 _ (List.getElem_mem hjl)
      clear HX
      obtain ⟨i0, hi, hz0, hz1, hz2⟩ := info_parts info5
      have hsz5 : (Try.prog.info? 5).map (·.size) = some 1 := by rw [hi]; simp [hz1]
      by_cases hp0 : len1 = 0
      · subst hp0
        have hF := found (n1 := 0) (Z1 := Z1) HN.out HR.out (Or.inl rfl)
        have HF : Hid (Lib.indexByte (Lib.bytesOf (numsOf len0 Z0 ++ numsOf 0 Z1)) 0 = -1) := hF
        clear hF
        go_wp2_with (first
          | (at_make; refine wpList_make_full _ rfl (.tmp 53) (.tmp 53) 24 rfl w.heap.size 5 i0 (.int .u8 0) 1 Try.underlying24 hi hz0 hz1 .i64 .i64 _ _ (len0 + 0) rfl rfl (by omega) (by omega) (by rw [hz2]; omega) (by unfold maxLen; omega) (Nat.le_refl _) ?_; intro w1 hown hgrow; have hg1 := made_block hown; have hb1 : Below w.heap.size w w1 := (Below.refl _ _).grown hgrow (Nat.le_refl _) (fun k hk => by cases hk); clear hown hgrow)
          | (refine wpList_copy_splice rfl (.tmp 55) (.tmp 56) 24 24 rfl 5 Try.underlying24 hsz5 _ _ _ _ _ _ rfl rfl w.heap.size 0 _ 5 hg1 (cellsOf len0 Z0) (by simp [cellsOf_length]) (fun hp => ⟨rfl, cellsOf_src HB0.out hb1 hp⟩) (by simp [cellsOf_length]) (cellsOf_one _ _) w.heap.size w hb1 (Nat.le_refl _) ?_; intro w2 hg2 hb2)
          | (refine wpList_copy_splice rfl (.tmp 61) (.tmp 62) 24 24 rfl 5 Try.underlying24 hsz5 _ _ _ _ _ _ rfl rfl w.heap.size len0 _ 5 hg2.out (cellsOf 0 Z1) (by simp [cellsOf_length]) (fun hp => by simp [cellsOf_length] at hp) (by simp [cellsOf_length, splice]) (cellsOf_one _ _) w.heap.size w hb2 (Nat.le_refl _) ?_; intro w3 hg3 hb3))
        have hrow : w3.heap[w.heap.size]? = some (.cells (cellsOf len0 Z0 ++ cellsOf 0 Z1).toArray 5 (0, 0)) := by
          rw [← spliced]; exact hg3.out
        have HC : Hid (∀ i, i < len0 → w3.cell? ⟨w.heap.size, 0 + i, none⟩ = some (.int .u8 ((numsOf len0 Z0 ++ numsOf 0 Z1).getD i 0))) := fun i hi => row_cells hrow i (by omega)
        have HL : Hid (Byts w3 (some ⟨w.heap.size, 0, none⟩) len0 Z0) := row_left hrow
        have HL' : Hid (Byts w3 a0 len0 Z0) := HB0.out.below hb3
        have HE : Hid (Below w.heap.size w w3) := hb3
        clear hg1 hg2 hg3 hrow hb1 hb2 hb3
        refine (zzsplit (split_none w.heap.size len0 len0 (numsOf len0 Z0 ++ numsOf 0 Z1) w3 (by simp [numsOf]) HC.out HF.out)).mono ?_
        rintro e w4 ⟨rfl, hw4⟩
        obtain rfl := hw4.symm
        go_wp2_with fail
        refine (same_yes _ _ _ _ _ Z0 _ (by omega) HL.out HL'.out).mono ?_
        rintro e w5 ⟨rfl, q, rfl⟩
        go_wp2_with fail
        refine (same_yes _ _ 0 _ _ Z1 _ (by omega) (Or.inl rfl) (Or.inl rfl)).mono ?_
        rintro e w6 ⟨rfl, q2, rfl⟩
        go_wp2
        go_ret
        exact ⟨rfl, below_drewN HE.out _⟩
      · obtain ⟨b1, o1, rfl, hc1⟩ := HB1.out.at (k := 0) (by omega)
        rw [Nat.add_zero] at hc1
        have hpos : (0 : Int) < (len1 : Int) := by omega
        by_cases hz : Z1 0 = 0
        · have hF := found (n1 := len1) (Z1 := Z1) HN.out HR.out (Or.inr hz)
          rw [if_neg hp0] at hF
          have HF : Hid (Lib.indexByte (Lib.bytesOf (numsOf len0 Z0 ++ numsOf len1 Z1)) 0 = (len0 : Int)) := hF
          rw [hz] at hc1
          clear hF hz
          go_wp2_with (first
            | (at_make; refine wpList_make_full _ rfl (.tmp 53) (.tmp 53) 24 rfl w.heap.size 5 i0 (.int .u8 0) 1 Try.underlying24 hi hz0 hz1 .i64 .i64 _ _ (len0 + len1) rfl rfl (by omega) (by omega) (by rw [hz2]; omega) (by unfold maxLen; omega) (Nat.le_refl _) ?_; intro w1 hown hgrow; have hg1 := made_block hown; have hb1 : Below w.heap.size w w1 := (Below.refl _ _).grown hgrow (Nat.le_refl _) (fun k hk => by cases hk); clear hown hgrow)
            | (refine wpList_copy_splice rfl (.tmp 55) (.tmp 56) 24 24 rfl 5 Try.underlying24 hsz5 _ _ _ _ _ _ rfl rfl w.heap.size 0 _ 5 hg1 (cellsOf len0 Z0) (by simp [cellsOf_length]) (fun hp => ⟨rfl, cellsOf_src HB0.out hb1 hp⟩) (by simp [cellsOf_length]) (cellsOf_one _ _) w.heap.size w hb1 (Nat.le_refl _) ?_; intro w2 hg2 hb2)
            | (refine wpList_copy_splice rfl (.tmp 61) (.tmp 62) 24 24 rfl 5 Try.underlying24 hsz5 _ _ _ _ _ _ rfl rfl w.heap.size len0 _ 5 hg2.out (cellsOf len1 Z1) (by simp [cellsOf_length]) (fun hp => ⟨rfl, cellsOf_src HB1.out hb2 hp⟩) (by simp [cellsOf_length, splice]) (cellsOf_one _ _) w.heap.size w hb2 (Nat.le_refl _) ?_; intro w3 hg3 hb3))
          have hrow : w3.heap[w.heap.size]? = some (.cells (cellsOf len0 Z0 ++ cellsOf len1 Z1).toArray 5 (0, 0)) := by
            rw [← spliced]; exact hg3.out
          have HC : Hid (∀ i, i < len0 + len1 → w3.cell? ⟨w.heap.size, 0 + i, none⟩ = some (.int .u8 ((numsOf len0 Z0 ++ numsOf len1 Z1).getD i 0))) := row_cells hrow
          have HL : Hid (Byts w3 (some ⟨w.heap.size, 0, none⟩) len0 Z0) := row_left hrow
          have HL' : Hid (Byts w3 a0 len0 Z0) := HB0.out.below hb3
          have HR1 : Hid (Byts w3 (some ⟨w.heap.size, len0, none⟩) len1 Z1) := row_right hrow
          have HR1' : Hid (Byts w3 (some ⟨b1, o1, none⟩) len1 Z1) := HB1.out.below hb3
          have HE : Hid (Below w.heap.size w w3) := hb3
          clear hg1 hg2 hg3 hrow hb1 hb2 hb3 hc1
          refine (zzsplit (split_some w.heap.size len0 len1 (numsOf len0 Z0 ++ numsOf len1 Z1) w3 (by simp [numsOf]) HC.out HF.out (by omega) (by omega))).mono ?_
          rintro e w4 ⟨rfl, q0, rfl⟩
          go_wp2_with fail
          refine (same_yes _ _ _ _ _ Z0 _ (by omega) HL.out.draws HL'.out.draws).mono ?_
          rintro e w5 ⟨rfl, q, rfl⟩
          go_wp2_with fail
          refine (same_yes _ _ _ _ _ Z1 _ (by omega) HR1.out.draws HR1'.out.draws).mono ?_
          rintro e w6 ⟨rfl, q2, rfl⟩
          go_wp2
          go_ret
          exact ⟨rfl, below_drewN HE.out _⟩
        · have hne : (Z1 0 != 0) = true := by simpa using hz
          clear hz
          generalize Z1 0 = z at hc1 hne
          go_wp2
          go_ret
          exact ⟨rfl, Below.refl _ _⟩

end Go.Proofs.Qxb6600406a
