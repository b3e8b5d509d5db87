/-
  fnMatchAt.
-/
import Derived.Test.Qxb6600207aClone
namespace Go.Proofs.Qxb6600207a
open Go.RowKit
set_option linter.unusedVariables false

/-- The first k bytes of K stand at place p of L. -/
def Agree (L K : List UInt8) (p k : Nat) : Prop := ∀ j, j < k → L.getD (p + j) 0 = K.getD j 0

/-- Does K stand at place p of L? -/
def occB (L K : List UInt8) (p : Nat) : Bool := Lib.occAt L K p

theorem occ_of_agree {L K : List UInt8} {p : Nat} (hp : p + K.length ≤ L.length) (h : Agree L K p K.length) : occB L K p = true := by
  unfold occB Lib.occAt
  rw [List.isPrefixOf_iff_prefix, List.prefix_iff_eq_take]
  apply List.ext_getElem
  · simp; omega
  · intro i h1 h2
    have := h i h1
    rw [List.getD_eq_getElem?_getD, List.getD_eq_getElem?_getD, List.getElem?_eq_getElem (by omega), List.getElem?_eq_getElem h1] at this
    simpa using this.symm

theorem agree_of_occ {L K : List UInt8} {p : Nat} (h : occB L K p = true) : Agree L K p K.length := by
  unfold occB Lib.occAt at h
  rw [List.isPrefixOf_iff_prefix] at h
  obtain ⟨t, ht⟩ := h
  intro j hj
  have h1 : (L.drop p)[j]? = K[j]? := by rw [← ht, List.getElem?_append_left hj]
  rw [List.getElem?_drop] at h1
  rw [List.getD_eq_getElem?_getD, List.getD_eq_getElem?_getD, h1]

theorem no_room {L K : List UInt8} {p : Nat} (hK : K ≠ []) (hp : L.length < p + K.length) : occB L K p = false := by
  rw [← Bool.not_eq_true]
  intro h
  unfold occB Lib.occAt at h
  rw [List.isPrefixOf_iff_prefix] at h
  have := h.length_le
  have h0 : 0 < K.length := List.length_pos_iff.2 hK
  simp at this
  omega

theorem agree_next {L K : List UInt8} {p k : Nat} (h : Agree L K p k) (hk : L.getD (p + k) 0 = K.getD k 0) : Agree L K p (k + 1) := fun j hj => by
  by_cases e : j = k
  · subst e; exact hk
  · exact h j (by omega)

set_option maxHeartbeats 1000000 in
theorem match_any (a : Option Addr) (c p : Nat) (L : List UInt8) (key : ByteArray) (w : World) (hR : Row w a L) (hL : L.length ≤ 4194304) (hK : key.size ≤ 4194304) (hK0 : key.data.toList ≠ []) (hp : p ≤ 4194304) :
    Calls Try.prog 16 #[.slice a L.length c, .int .i64 p, .string key] w fun e w' => e = .returned (.bool (occB L key.data.toList p)) ∧ ∃ q, w' = w.drewN q := by
  have hsz : key.data.toList.length = key.size := by simp
  by_cases hroom : L.length < p + key.size
  · have HN := hid (no_room (L := L) (K := key.data.toList) (p := p) hK0 (by omega))
    clear hsz hR
    go_enter Try.func16, Try.ntmps16
    go_wp2
    go_ret
    exact ⟨ret_bool HN.out.symm, 0, rfl⟩
  have HR := hid hR
  have HO := hid (occ_of_agree (L := L) (K := key.data.toList) (p := p) (by omega))
  have HO' := hid (fun h => agree_of_occ (L := L) (K := key.data.toList) (p := p) h)
  have HS := hid hsz
  clear hR hsz
  go_enter Try.func16, Try.ntmps16
  go_wp2
  go_loopw [7] (fun i wr => ∃ k q : Nat, k ≤ key.size ∧ i = .int .i64 k ∧ wr = w.drewN q ∧ Agree L key.data.toList p k) (fun i _ => key.size - (intOf i).toNat)
  case atStart => exact ⟨0, 0, Nat.zero_le _, rfl, rfl, fun j hj => by omega⟩
  case round =>
    obtain ⟨k, q, hk, rfl, rfl, hag⟩ := hrel
    have HA := hid hag
    clear hag
    by_cases hlt : k < key.size
    · obtain ⟨b, off, rfl, hcell⟩ := HR.out.at (k := p + k) (by omega)
      have hkb : key.data.toList.getD k 0 = key[k] := by
        rw [List.getD_eq_getElem?_getD, List.getElem?_eq_getElem (by simpa using hlt)]
        rfl
      have hlt' : (p : Int) + (k : Int) < (L.length : Int) := by omega
      have h0' : (0 : Int) ≤ (p : Int) + (k : Int) := by omega
      have hk' : (k : Int) < (key.size : Int) := by omega
      have hwrap : IntKind.i64.wrap ((p : Int) + (k : Int)) = (p : Int) + (k : Int) := by rw [IntKind.wrap_i64]; omega
      by_cases heq : L.getD (p + k) 0 = key[k]
      · have hne : (((L.getD (p + k) 0).toNat : Int) != ((key[k]).toNat : Int)) = false := by rw [heq]; simp
        have HX := hid (agree_next HA.out (by rw [heq, hkb]))
        clear heq hkb
        generalize (L.getD (p + k) 0).toNat = z at hcell hne
        go_wp2_with fail
        go_quiet (fail)
        go_wp2
        go_roundw
        case rel => exact ⟨k + 1, _, by omega, by go_num, rfl, HX.out⟩
        case measure => simp [intOf]; omega
      · have hne : (((L.getD (p + k) 0).toNat : Int) != ((key[k]).toNat : Int)) = true := by
          simp
          intro h
          apply heq
          apply UInt8.toNat.inj
          rw [List.getD_eq_getElem?_getD]
          omega
        have HX : Hid (occB L key.data.toList p = false) := by
          rw [← Bool.not_eq_true]
          intro h
          have := HO'.out h k (by rw [HS.out]; exact hlt)
          rw [hkb] at this
          exact heq this
        clear heq hkb
        generalize (L.getD (p + k) 0).toNat = z at hcell hne
        go_wp2_with fail
        go_quiet (fail)
        go_wp2
        go_ret
        exact ⟨ret_bool HX.out.symm, q + nq, by rw [World.drewN_drewN]⟩
    · have HX := hid (HO.out (by rw [HS.out]; obtain rfl : k = key.size := by omega
                                 exact HA.out))
      go_wp2
      go_ret
      exact ⟨ret_bool HX.out.symm, _, rfl⟩
end Go.Proofs.Qxb6600207a
