/-
  THE LEAVES of FnBelowCoversHeldNames's road beyond those of the other law.
-/
import Derived.Test.Qxb6600023aLead
namespace Go.Proofs.Qxb6600023a
open Go.RowKit Go.Shelf Go.Sort
set_option linter.unusedVariables false

set_option maxHeartbeats 1000000 in
theorem small9_any (ev : Bool) (a1 a2 : Option Addr) (n1 c1 n2 c2 : Nat) (S1 S2 : Nat → ByteArray) (ns x : ByteArray) (w : World) (hn1 : n1 ≤ maxLen) (hn2 : n2 ≤ maxLen) (hns : ns.size ≤ maxLen) (hx : x.size ≤ maxLen)
    (hz1 : ∀ j, j < n1 → (S1 j).size ≤ maxLen) (hz2 : ∀ j, j < n2 → (S2 j).size ≤ maxLen) (hS1 : Strs w a1 n1 S1) (hS2 : Strs w a2 n2 S2) :
    Calls Try.prog 9 #[.bool ev, .slice a1 n1 c1, .slice a2 n2 c2, .string ns, .string x] w (Says (Fits n1 n2 S1 S2 ns ∧ x.size ≤ 1048576) w) := by
  unfold maxLen at hn1 hn2 hns hx hz1 hz2
  have HZ1 : Hid (∀ j, j < n1 → (S1 j).size ≤ 2 ^ 63 - 1) := hz1
  have HZ2 : Hid (∀ j, j < n2 → (S2 j).size ≤ 2 ^ 63 - 1) := hz2
  have HS1 : Hid (Strs w a1 n1 S1) := hS1
  have HS2 : Hid (Strs w a2 n2 S2) := hS2
  clear hz1 hS1 hz2 hS2
  by_cases h1 : 1048576 < n1
  · go_enter Try.func9, Try.ntmps9
    go_wp2
    go_ret
    exact Says.no
  go_enter Try.func9, Try.ntmps9
  go_wp2
  go_loop [11, 12] (fun t i => ∃ (k : Nat) (m : Int), k ≤ n1 ∧ i = .int .i64 k ∧ t = .int .i64 m ∧ 0 ≤ m ∧ m ≤ 1048576 ∧ Short k S1) (fun _ i => n1 - (intOf i).toNat)
  case atStart => exact ⟨0, n1, Nat.zero_le _, rfl, by go_num, by omega, by omega, Short.none _⟩
  case round =>
    obtain ⟨k, m, hk, rfl, rfl, hm0, hm1, hsm⟩ := hrel
    by_cases hlt : k < n1
    · obtain ⟨b, off, rfl, hcell⟩ := HS1.out.at hlt
      have hsz := HZ1.out k hlt
      have HT : Hid ((S1 k).size ≤ 1048576 → Short (k + 1) S1) := hsm.next
      generalize hs : S1 k = s at hcell hsz HT
      clear hs hsm
      go_wp2
      · go_ret
        exact Says.no
      · go_ret
        exact Says.no
      · go_round
        case rel => exact ⟨k + 1, m + s.size, by omega, by go_num, rfl, by omega, by omega, HT.out (by omega)⟩
        case measure => simp [intOf]; omega
    · have hsm1 : Short n1 S1 := fun j hj => hsm j (by omega)
      clear hsm
      by_cases h2 : 1048576 < n2
      · go_wp2
        go_ret
        exact Says.no
      go_wp2
      · go_ret
        exact Says.no
      go_loop [11, 13] (fun t i => ∃ (k : Nat) (m : Int), k ≤ n2 ∧ i = .int .i64 k ∧ t = .int .i64 m ∧ 0 ≤ m ∧ m ≤ 1048576 ∧ Short k S2) (fun _ i => n2 - (intOf i).toNat)
      case atStart => exact ⟨0, m + n2, Nat.zero_le _, rfl, by go_num, by omega, by omega, Short.none _⟩
      case round =>
        obtain ⟨k', m', hk', rfl, rfl, hm0', hm1', hsm⟩ := hrel
        by_cases hlt' : k' < n2
        · obtain ⟨b, off, rfl, hcell⟩ := HS2.out.at hlt'
          have hsz := HZ2.out k' hlt'
          have HT : Hid ((S2 k').size ≤ 1048576 → Short (k' + 1) S2) := hsm.next
          generalize hs : S2 k' = s at hcell hsz HT
          clear hs hsm
          go_wp2
          · go_ret
            exact Says.no
          · go_ret
            exact Says.no
          · go_round
            case rel => exact ⟨k' + 1, m' + s.size, by omega, by go_num, rfl, by omega, by omega, HT.out (by omega)⟩
            case measure => simp [intOf]; omega
        · have hsm2 : Short n2 S2 := fun j hj => hsm j (by omega)
          clear hsm
          by_cases h3 : 1048576 < ns.size
          · go_wp2
            go_ret
            exact Says.no
          by_cases h4 : 1048576 < x.size
          · go_wp2
            all_goals go_ret
            all_goals exact Says.no
          go_wp2
          · go_ret
            exact Says.no
          · go_ret
            exact Says.no
          · go_ret
            exact Says.yes ⟨⟨by omega, by omega, by omega, hsm1, hsm2⟩, by omega⟩


/-! ### b1Prefix, b1HasPrefix -/
def PreLeft (ns : ByteArray) (w : World) (e : Ending) (w' : World) : Prop := w' = w ∧ ∃ p, e = .returned (.string p) ∧ IsPre ns p

set_option maxHeartbeats 400000 in
theorem pre11_any (ns : ByteArray) (w : World) (hs : ns.size ≤ 2097152) : Calls Try.prog 11 #[.string ns] w (PreLeft ns w) := by
  cases he : ns.toList.isEmpty with
  | true =>
    have HP := hid (isPre_none he)
    go_enter Try.func11, Try.ntmps11
    go_wp2
    go_ret
    exact ⟨rfl, _, rfl, HP.out⟩
  | false =>
    have HP := hid (isPre_some he hs)
    go_enter Try.func11, Try.ntmps11
    go_wp2
    go_ret
    exact ⟨rfl, _, rfl, HP.out⟩

/-- Does x open with p? -/
def opensB (x p : ByteArray) : Bool := p.data.toList.isPrefixOf x.data.toList

theorem opens_yes (x p : ByteArray) (h : p.size ≤ x.size) : ((x.extract 0 p.size).toList == p.toList) = opensB x p := by
  unfold opensB
  rw [Lib.toList_data, Lib.toList_data, Lib.extract_data, Bool.eq_iff_iff, beq_iff_eq, List.isPrefixOf_iff_prefix, List.prefix_iff_eq_take]
  have e : p.data.toList.length = p.size := by simp
  rw [e]
  simp only [List.drop_zero, Nat.sub_zero]
  exact eq_comm

theorem opens_no (x p : ByteArray) (h : ¬ p.size ≤ x.size) : opensB x p = false := by
  unfold opensB
  rw [← Bool.not_eq_true, List.isPrefixOf_iff_prefix]
  intro hp
  have := hp.length_le
  simp at this
  exact h this

set_option maxHeartbeats 400000 in
theorem hasPre12_any (x p : ByteArray) (w : World) (hx : x.size ≤ 4194304) (hp : p.size ≤ 4194304) :
    Calls Try.prog 12 #[.string x, .string p] w fun e w' => e = .returned (.bool (opensB x p)) ∧ w' = w := by
  by_cases h : p.size ≤ x.size
  · have hle : (p.size : Int) ≤ (x.size : Int) := by omega
    go_enter Try.func12, Try.ntmps12
    go_wp2
    go_ret
    exact ⟨ret_bool (opens_yes x p h), rfl⟩
  · have hle : ¬ (p.size : Int) ≤ (x.size : Int) := by omega
    go_enter Try.func12, Try.ntmps12
    go_wp2
    go_ret
    exact ⟨ret_bool (opens_no x p h).symm, rfl⟩

/-! ### b1FirstComponent, b1Contains -/
def FirstLeft (s : ByteArray) (w : World) (e : Ending) (w' : World) : Prop := w' = w ∧ ∃ f : ByteArray, e = .returned (.string f) ∧ f.data.toList = firstC s.data.toList

theorem firstC_at {s : ByteArray} {k : Nat} (hk : k < s.size) (hno : slashB (s.data.toList.take k) = false) (hc : ((s[k].toNat : Int) == 47) = true) : (s.extract 0 k).data.toList = firstC s.data.toList := by
  have e : s[k] = 47 := byte_eq (n := 47) hc (by omega)
  rw [Lib.extract_data]
  simp only [List.drop_zero, Nat.sub_zero]
  have h1 : 47 ∉ s.data.toList.take k := by
    unfold slashB at hno
    rw [← Bool.not_eq_true, List.contains_iff_mem] at hno
    exact hno
  have h2 := firstC_take (r := s.data.toList) (j := k) (by rw [at_byte s k hk, e])
  rw [← h2, take_snoc s k hk, e]
  have h3 : ∀ (l : List UInt8), 47 ∉ l → firstC (l ++ [47]) = l := by
    intro l
    induction l with
    | nil => intro _; rfl
    | cons a r ih =>
      intro h
      have h4 : a ≠ 47 := fun e => h (by simp [e])
      have h5 := ih (fun e => h (by simp [e]))
      unfold firstC at *
      rw [List.cons_append, List.takeWhile_cons_of_pos (by simpa using h4), h5]
  exact (h3 _ h1).symm

set_option maxHeartbeats 400000 in
theorem first18_any (s : ByteArray) (w : World) (hs : s.size ≤ 4194304) : Calls Try.prog 18 #[.string s] w (FirstLeft s w) := by
  go_enter Try.func18, Try.ntmps18
  go_wp2
  go_loop [3] (fun i => ∃ k : Nat, k ≤ s.size ∧ i = .int .i64 k ∧ slashB (s.data.toList.take k) = false) (fun i => s.size - (intOf i).toNat)
  case atStart => exact ⟨0, Nat.zero_le _, rfl, rfl⟩
  case round =>
    obtain ⟨k, hk, rfl, hno⟩ := hrel
    have HN := hid hno
    clear hno
    by_cases hlt : k < s.size
    · go_wp2
      · go_ret
        exact ⟨rfl, _, rfl, firstC_at hlt HN.out (by assumption)⟩
      · go_round
        case rel => exact ⟨k + 1, by omega, by go_num, slash_next s k hlt (by assumption) HN.out⟩
        case measure => simp [intOf]; omega
    · have HF : Hid (s.data.toList = firstC s.data.toList) := by
        have e := HN.out
        rw [List.take_of_length_le (by simp; omega)] at e
        refine (firstC_none ?_).symm
        unfold slashB at e
        rw [← Bool.not_eq_true, List.contains_iff_mem] at e
        exact e
      go_wp2
      go_ret
      exact ⟨rfl, _, rfl, HF.out⟩

/-- c is not among the first k. -/
def NotIn (L : List (List UInt8)) (c : List UInt8) (k : Nat) : Prop := ∀ j, j < k → L.getD j [] ≠ c

theorem cell_string {L : List (List UInt8)} {k : Nat} : encStr (L.getD k []) = .string (bytesS L k) := rfl

set_option maxHeartbeats 1000000 in
theorem contains17_any (v : Value) (L : List (List UInt8)) (c : ByteArray) (w : World) (hr : Reads w v L) (hl : L.length ≤ 4194304) :
    Calls Try.prog 17 #[v, .string c] w fun e w' => e = .returned (.bool (hasB L c)) ∧ w' = w := by
  obtain ⟨a, cap, rfl, h1, h2, h3⟩ := hr
  have HC := hid h3
  clear h1 h2 h3
  go_enter Try.func17, Try.ntmps17
  go_wp2
  go_loop [5] (fun i => ∃ k : Nat, k ≤ L.length ∧ i = .int .i64 k ∧ NotIn L c.data.toList k) (fun i => L.length - (intOf i).toNat)
  case atStart => exact ⟨0, Nat.zero_le _, rfl, fun j hj => by omega⟩
  case round =>
    obtain ⟨k, hk, rfl, hno⟩ := hrel
    have HN := hid hno
    clear hno
    by_cases hlt : k < L.length
    · rcases HC.out with h0 | ⟨b, rfl, _, hcell⟩
      · subst h0; simp at hlt
      have hck := hcell k hlt
      rw [cell_string] at hck
      have HB : Hid ((bytesS L k).toList = L.getD k []) := by
        rw [Lib.toList_data]; rfl
      clear hcell
      generalize bytesS L k = y at hck HB
      go_wp2
      · have hy : (y.toList == c.toList) = true := by assumption
        have HH : Hid (hasB L c = true) := by
          unfold hasB
          rw [List.contains_iff_mem]
          rw [beq_iff_eq, HB.out, Lib.toList_data] at hy
          rw [← hy, List.getD_eq_getElem?_getD, List.getElem?_eq_getElem hlt]
          exact List.getElem_mem hlt
        go_ret
        exact ⟨ret_bool HH.out.symm, rfl⟩
      · have hy : (y.toList == c.toList) = false := by assumption
        have HH : Hid (NotIn L c.data.toList (k + 1)) := by
          intro j hj
          by_cases e : j = k
          · subst e
            rw [HB.out, Lib.toList_data] at hy
            simpa using hy
          · exact HN.out j (by omega)
        go_round
        case rel => exact ⟨k + 1, by omega, by go_num, HH.out⟩
        case measure => simp [intOf]; omega
    · have HH : Hid (hasB L c = false) := by
        unfold hasB
        rw [← Bool.not_eq_true, List.contains_iff_mem]
        intro hm
        obtain ⟨j, hj, e⟩ := List.getElem_of_mem hm
        exact HN.out j (by omega) (by rw [List.getD_eq_getElem?_getD, List.getElem?_eq_getElem hj]; exact e)
      go_wp2
      go_ret
      exact ⟨ret_bool HH.out.symm, rfl⟩
end Go.Proofs.Qxb6600023a
