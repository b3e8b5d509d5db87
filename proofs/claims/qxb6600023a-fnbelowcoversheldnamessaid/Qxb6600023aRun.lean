/-
  Small laws for Below's two loops.
-/
import Derived.Test.Qxb6600023aHeld
namespace Go.Proofs.Qxb6600023a
open Go.RowKit Go.Shelf Go.Sort
set_option linter.unusedVariables false

/-! ### plain -/
def compOf (p n : List UInt8) : List UInt8 := firstC (n.drop p.length)
/-- What the inner loop has gathered when it has looked at k names. -/
def gotten (L : List (List UInt8)) (p : List UInt8) (k : Nat) : List (List UInt8) := ((L.drop (lbOf L p)).take k).map (compOf p)
/-- All of the first k names that it looks at open with p. -/
def Opens (L : List (List UInt8)) (p : List UInt8) (k : Nat) : Prop := ∀ j, j < k → p.isPrefixOf (L.getD (lbOf L p + j) []) = true

theorem gotten_zero (L : List (List UInt8)) (p : List UInt8) : gotten L p 0 = [] := rfl
theorem gotten_length {L : List (List UInt8)} {p : List UInt8} {k : Nat} : (gotten L p k).length ≤ k := by
  unfold gotten
  rw [List.length_map]
  exact List.length_take_le _ _
theorem gotten_succ {L : List (List UInt8)} {p : List UInt8} {k : Nat} (h : lbOf L p + k < L.length) : gotten L p (k + 1) = gotten L p k ++ [compOf p (L.getD (lbOf L p + k) [])] := by
  unfold gotten
  have hk : k < (L.drop (lbOf L p)).length := by simp; omega
  rw [List.take_succ_eq_append_getElem hk, List.map_append]
  congr 1
  simp [List.getD_eq_getElem?_getD, h]
theorem Opens.none (L : List (List UInt8)) (p : List UInt8) : Opens L p 0 := fun j hj => by omega
theorem Opens.next {L : List (List UInt8)} {p : List UInt8} {k : Nat} (h : Opens L p k) (hk : p.isPrefixOf (L.getD (lbOf L p + k) []) = true) : Opens L p (k + 1) := fun j hj => by
  by_cases e : j = k
  · subst e; exact hk
  · exact h j (by omega)

theorem takeWhile_stop {α : Type} (f : α → Bool) : ∀ (D : List α) (k : Nat), (∀ j (h : j < D.length), j < k → f D[j] = true) → (D.length ≤ k ∨ ∃ h : k < D.length, f D[k] = false) → D.takeWhile f = D.take k
  | [], k, _, _ => by simp
  | d :: D, 0, _, hs => by
    rcases hs with hs | ⟨_, hs⟩
    · simp at hs
    · simp at hs
      rw [List.takeWhile_cons_of_neg (by simp [hs])]
      rfl
  | d :: D, k + 1, ha, hs => by
    have h0 : f d = true := ha 0 (by simp) (by omega)
    rw [List.takeWhile_cons_of_pos h0, List.take_succ_cons]
    rw [takeWhile_stop f D k (fun j h hj => ha (j + 1) (by simpa using h) (by omega)) ?_]
    rcases hs with hs | ⟨h, hs⟩
    · left; simpa using hs
    · right; exact ⟨by simpa using h, by simpa using hs⟩

theorem gotten_stop {L : List (List UInt8)} {p : List UInt8} {k : Nat} (ha : Opens L p k) (hs : L.length ≤ lbOf L p + k ∨ (lbOf L p + k < L.length ∧ p.isPrefixOf (L.getD (lbOf L p + k) []) = false)) : gotten L p k = compsOf L p := by
  unfold gotten compsOf runOf
  rw [← drop_lbOf, takeWhile_stop (fun m => p.isPrefixOf m) (L.drop (lbOf L p)) k]
  · rfl
  · intro j h hj
    have h' : lbOf L p + j < L.length := by simp at h; omega
    have := ha j hj
    rw [List.getD_eq_getElem?_getD, List.getElem?_eq_getElem h'] at this
    simpa using this
  · rcases hs with hs | ⟨h, hs⟩
    · left; simp; omega
    · right
      refine ⟨by simp; omega, ?_⟩
      rw [List.getD_eq_getElem?_getD, List.getElem?_eq_getElem h] at hs
      simpa using hs

/-- What has been gathered when i of the two lists are through. -/
def accOf (N B : List (List UInt8)) (p : List UInt8) (i : Nat) : List (List UInt8) := (if 0 < i then compsOf N p else []) ++ (if 1 < i then compsOf B p else [])

theorem compsOf_length (L : List (List UInt8)) (p : List UInt8) : (compsOf L p).length ≤ L.length := by
  unfold compsOf runOf
  rw [List.length_map]
  exact Nat.le_trans (List.takeWhile_sublist _).length_le (List.dropWhile_sublist _).length_le

theorem accOf_length {N B : List (List UInt8)} {p : List UInt8} {i : Nat} (hN : N.length ≤ 1048576) (hB : B.length ≤ 1048576) : (accOf N B p i).length ≤ 2097152 := by
  unfold accOf
  have h1 := compsOf_length N p
  have h2 := compsOf_length B p
  rw [List.length_append]
  have h3 : (if 0 < i then compsOf N p else []).length ≤ 1048576 := by
    split
    · omega
    · simp
  have h4 : (if 1 < i then compsOf B p else []).length ≤ 1048576 := by
    split
    · omega
    · simp
  omega

/-! ### a slice's tail -/
theorem tail_of (a : Option Addr) (n c F : Nat) (hF : F ≤ n) :
    ∃ a' c', (∀ wx : World, (Instr.slice 22 (.slice a n c) (some (.int .i64 (F : Int))) none none).run Try.prog wx = .ok (.slice a' (n - F) c') wx) ∧ ∀ b, a = some ⟨b, 0, none⟩ → F < n → n ≤ c → a' = some ⟨b, F, none⟩ := by
  have ht : Try.prog.underlying 22 = some (.slice (Try.prog.elem 22)) := by kernel_rfl
  have hsz : ∀ wx, ((sizeOf (Try.prog.elem 22)).run Try.prog wx) = .ok 1 wx := fun wx => by kernel_rfl
  refine ⟨if c = F then a else a.map (·.add (F * 1)), c - F, fun wx => ?_, ?_⟩
  · have h := run_slice_l (P := Try.prog) (w := wx) 22 a n c ht .i64 (F : Int) (by omega) (by omega)
    rw [h, hsz]
    simp [Result.andThen, sliced]
  · intro b hb h1 h2
    rw [if_neg (by omega), hb, Option.map_some, Go.WideShapes.add_plain]
    simp
end Go.Proofs.Qxb6600023a
