/-
  THE LEAVES OF THE ROAD: functions that only read.
-/
import Derived.Test.Qxb6600023aRows
import Derived.Test.Qxb6600023aPlain
import Derived.WalkKit
import Derived.WalkSpells
import Derived.WalkLawsBesides
namespace Go.Proofs.Qxb6600023a
open Go.RowKit

theorem take_snoc (s : ByteArray) (k : Nat) (h : k < s.size) : s.data.toList.take (k + 1) = s.data.toList.take k ++ [s[k]] := by
  rw [List.take_succ_eq_append_getElem (by simpa using h)]; rfl

theorem ret_bool {a b : Bool} (h : a = b) : Ending.returned (.bool a) = .returned (.bool b) := by rw [h]

theorem byte_eq {c : UInt8} {n : Nat} (h : ((c.toNat : Int) == (n : Int)) = true) (hn : n < 256) : c = UInt8.ofNat n := by
  have : c.toNat = n := by have h' : (c.toNat : Int) = (n : Int) := by simpa using h
                           omega
  apply UInt8.toNat.inj
  rw [this]
  simp
  omega

theorem byte_ne {c : UInt8} {n : Nat} (h : ((c.toNat : Int) == (n : Int)) = false) (hn : n < 256) : c ≠ UInt8.ofNat n := by
  intro e
  subst e
  simp at h
  omega

theorem slash_hit (s : ByteArray) (k : Nat) (h : k < s.size) (hc : ((s[k].toNat : Int) == 47) = true) : slashB s.data.toList = true := by
  have e : s[k] = 47 := byte_eq (n := 47) hc (by omega)
  unfold slashB
  rw [List.contains_iff_mem, ← e]
  exact Array.mem_toList_iff.2 (Array.getElem_mem _)

theorem slash_next (s : ByteArray) (k : Nat) (h : k < s.size) (hc : ((s[k].toNat : Int) == 47) = false) (hno : slashB (s.data.toList.take k) = false) : slashB (s.data.toList.take (k + 1)) = false := by
  have e : s[k] ≠ 47 := byte_ne (n := 47) hc (by omega)
  rw [take_snoc s k h]
  unfold slashB at *
  rw [List.contains_eq_mem] at *
  simp at *
  exact ⟨hno, fun h => e h.symm⟩

set_option maxHeartbeats 400000 in
theorem hasSlash_any (s : ByteArray) (w : World) (hs : s.size ≤ maxLen) :
    Calls Try.prog 20 #[.string s] w fun e w' => e = .returned (.bool (slashB s.data.toList)) ∧ w' = w := by
  unfold maxLen at hs
  go_enter Try.func20, Try.ntmps20
  go_wp2
  go_loop [3] (fun i => ∃ k : Nat, k ≤ s.size ∧ i = .int .i64 k ∧ slashB (s.data.toList.take k) = false) (fun i => s.size - (intOf i).toNat)
  case atStart => exact ⟨0, Nat.zero_le _, rfl, rfl⟩
  case round =>
    obtain ⟨k, hk, rfl, hno⟩ := hrel
    have HN : Hid (slashB (s.data.toList.take k) = false) := hno
    clear hno
    by_cases hlt : k < s.size
    · go_wp2
      · go_ret
        exact ⟨ret_bool (slash_hit s k hlt (by assumption)).symm, rfl⟩
      · go_round
        case rel => exact ⟨k + 1, by omega, by go_num, slash_next s k hlt (by assumption) HN.out⟩
        case measure => simp [intOf]; omega
    · go_wp2
      go_ret
      have e := HN.out
      rw [List.take_of_length_le (by simp; omega)] at e
      exact ⟨ret_bool e.symm, rfl⟩

/-- WHAT THE WALK IS TOLD OF A SLICE OF STRINGS: it has no element, or its cells hold them. -/
def Strs (w : World) (a : Option Addr) (n : Nat) (S : Nat → ByteArray) : Prop :=
  n = 0 ∨ ∃ b off, a = some ⟨b, off, none⟩ ∧ ∀ j, j < n → w.cell? ⟨b, off + j, none⟩ = some (.string (S j))

theorem Strs.at {w : World} {a : Option Addr} {n : Nat} {S : Nat → ByteArray} (h : Strs w a n S) {k : Nat} (hk : k < n) : ∃ b off, a = some ⟨b, off, none⟩ ∧ w.cell? ⟨b, off + k, none⟩ = some (.string (S k)) := by
  rcases h with h | ⟨b, off, e, h⟩
  · omega
  · exact ⟨b, off, e, h k hk⟩

set_option maxHeartbeats 400000 in
theorem bytes_any (a : Option Addr) (n c : Nat) (S : Nat → ByteArray) (w : World) (hn : n ≤ maxLen) (hz : ∀ j, j < n → (S j).size ≤ maxLen) (hS : Strs w a n S) :
    Calls Try.prog 10 #[.slice a n c] w fun e w' => ∃ m : Int, e = .returned (.int .i64 m) ∧ 0 ≤ m ∧ m ≤ 1048577 ∧ w' = w := by
  unfold maxLen at hn hz
  by_cases h64 : 65536 < n
  · clear hz hS
    go_enter Try.func10, Try.ntmps10
    go_wp2
    go_ret
    exact ⟨1048577, rfl, by omega, by omega, rfl⟩
  have HZ : Hid (∀ j, j < n → (S j).size ≤ 2 ^ 63 - 1) := hz
  have HS : Hid (Strs w a n S) := hS
  clear hz hS
  go_enter Try.func10, Try.ntmps10
  go_wp2
  go_loop [3, 4] (fun t i => ∃ (k : Nat) (m : Int), k ≤ n ∧ i = .int .i64 k ∧ t = .int .i64 m ∧ 0 ≤ m ∧ m ≤ 1048576) (fun _ i => n - (intOf i).toNat)
  case atStart => exact ⟨0, 0, Nat.zero_le _, rfl, rfl, by omega, by omega⟩
  case round =>
    obtain ⟨k, m, hk, rfl, rfl, hm0, hm1⟩ := hrel
    by_cases hlt : k < n
    · obtain ⟨b, off, rfl, hcell⟩ := HS.out.at hlt
      have hsz := HZ.out k hlt
      generalize S k = s at hcell hsz
      go_wp2
      · go_ret
        exact ⟨1048577, rfl, by omega, by omega, rfl⟩
      · go_ret
        exact ⟨1048577, rfl, by omega, by omega, rfl⟩
      · go_round
        case rel => exact ⟨k + 1, m + (16 + s.size), by omega, by go_num, rfl, by omega, by omega⟩
        case measure => simp [intOf]; omega
    · go_wp2
      go_ret
      exact ⟨m, rfl, hm0, by omega, rfl⟩

/-- A bool comes back, the world is as it was, and 'true' says Q. -/
def Says (Q : Prop) (w : World) (e : Ending) (w' : World) : Prop := w' = w ∧ (e = .returned (.bool false) ∨ (e = .returned (.bool true) ∧ Q))
theorem Says.no {Q : Prop} {w : World} : Says Q w (.returned (.bool false)) w := ⟨rfl, Or.inl rfl⟩
theorem Says.yes {Q : Prop} {w : World} (h : Q) : Says Q w (.returned (.bool true)) w := ⟨rfl, Or.inr ⟨rfl, h⟩⟩

/-- Each of n strings is short. -/
def Short (n : Nat) (S : Nat → ByteArray) : Prop := ∀ j, j < n → (S j).size ≤ 1048576
theorem Short.none (S : Nat → ByteArray) : Short 0 S := fun j hj => by omega
theorem Short.next {k : Nat} {S : Nat → ByteArray} (h : Short k S) (hk : (S k).size ≤ 1048576) : Short (k + 1) S := fun j hj => by
  by_cases e : j = k
  · subst e; exact hk
  · exact h j (by omega)

/-- What the bound on the total length gives. -/
structure Fits (n1 n2 : Nat) (S1 S2 : Nat → ByteArray) (ns : ByteArray) : Prop where
  len1 : n1 ≤ 1048576
  len2 : n2 ≤ 1048576
  ns : ns.size ≤ 1048576
  s1 : Short n1 S1
  s2 : Short n2 S2

set_option maxHeartbeats 1000000 in
theorem small19_any (ev : Bool) (a1 a2 : Option Addr) (n1 c1 n2 c2 : Nat) (S1 S2 : Nat → ByteArray) (ns : ByteArray) (w : World) (hn1 : n1 ≤ maxLen) (hn2 : n2 ≤ maxLen) (hns : ns.size ≤ maxLen)
    (hz1 : ∀ j, j < n1 → (S1 j).size ≤ maxLen) (hz2 : ∀ j, j < n2 → (S2 j).size ≤ maxLen) (hS1 : Strs w a1 n1 S1) (hS2 : Strs w a2 n2 S2) :
    Calls Try.prog 19 #[.bool ev, .slice a1 n1 c1, .slice a2 n2 c2, .string ns] w (Says (Fits n1 n2 S1 S2 ns) w) := by
  unfold maxLen at hn1 hn2 hns hz1 hz2
  have HZ1 : Hid (∀ j, j < n1 → (S1 j).size ≤ 2 ^ 63 - 1) := hz1
  have HZ2 : Hid (∀ j, j < n2 → (S2 j).size ≤ 2 ^ 63 - 1) := hz2
  have HS1 : Hid (Strs w a1 n1 S1) := hS1
  have HS2 : Hid (Strs w a2 n2 S2) := hS2
  clear hz1 hS1 hz2 hS2
  by_cases h1 : 1048576 < n1
  · go_enter Try.func19, Try.ntmps19
    go_wp2
    go_ret
    exact Says.no
  go_enter Try.func19, Try.ntmps19
  go_wp2
  go_loop [9, 10] (fun t i => ∃ (k : Nat) (m : Int), k ≤ n1 ∧ i = .int .i64 k ∧ t = .int .i64 m ∧ 0 ≤ m ∧ m ≤ 1048576 ∧ Short k S1) (fun _ i => n1 - (intOf i).toNat)
  case atStart => exact ⟨0, n1, Nat.zero_le _, rfl, by go_num, by omega, by omega, Short.none _⟩
  case round =>
    obtain ⟨k, m, hk, rfl, rfl, hm0, hm1, hsm⟩ := hrel
    by_cases hlt : k < n1
    · obtain ⟨b, off, rfl, hcell⟩ := HS1.out.at hlt
      have hsz := HZ1.out k hlt
      have HT : Hid ((S1 k).size ≤ 1048576 → Short (k + 1) S1) := hsm.next
      generalize hs : S1 k = s at hcell hsz HT
      clear hs hsm
      go_wp2
      · go_ret
        exact Says.no
      · go_ret
        exact Says.no
      · go_round
        case rel => exact ⟨k + 1, m + s.size, by omega, by go_num, rfl, by omega, by omega, HT.out (by omega)⟩
        case measure => simp [intOf]; omega
    · have hsm1 : Short n1 S1 := fun j hj => hsm j (by omega)
      clear hsm
      by_cases h2 : 1048576 < n2
      · go_wp2
        go_ret
        exact Says.no
      go_wp2
      · go_ret
        exact Says.no
      go_loop [9, 11] (fun t i => ∃ (k : Nat) (m : Int), k ≤ n2 ∧ i = .int .i64 k ∧ t = .int .i64 m ∧ 0 ≤ m ∧ m ≤ 1048576 ∧ Short k S2) (fun _ i => n2 - (intOf i).toNat)
      case atStart => exact ⟨0, m + n2, Nat.zero_le _, rfl, by go_num, by omega, by omega, Short.none _⟩
      case round =>
        obtain ⟨k', m', hk', rfl, rfl, hm0', hm1', hsm⟩ := hrel
        by_cases hlt' : k' < n2
        · obtain ⟨b, off, rfl, hcell⟩ := HS2.out.at hlt'
          have hsz := HZ2.out k' hlt'
          have HT : Hid ((S2 k').size ≤ 1048576 → Short (k' + 1) S2) := hsm.next
          generalize hs : S2 k' = s at hcell hsz HT
          clear hs hsm
          go_wp2
          · go_ret
            exact Says.no
          · go_ret
            exact Says.no
          · go_round
            case rel => exact ⟨k' + 1, m' + s.size, by omega, by go_num, rfl, by omega, by omega, HT.out (by omega)⟩
            case measure => simp [intOf]; omega
        · have hsm2 : Short n2 S2 := fun j hj => hsm j (by omega)
          clear hsm
          by_cases h3 : 1048576 < ns.size
          · go_wp2
            go_ret
            exact Says.no
          go_wp2
          · go_ret
            exact Says.no
          · go_ret
            exact Says.yes ⟨by omega, by omega, by omega, hsm1, hsm2⟩

end Go.Proofs.Qxb6600023a
