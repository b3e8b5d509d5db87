/-
  THE PLAIN LAW: strings as lists of bytes, sets of names as sorted lists: what Below, Holds and the two laws compute, with no Go in sight.
-/
import Derived.Lib.SlicesCompact
namespace Go.Proofs.Qxb6600023a

/-- Does a slash lie in it? -/
def slashB (l : List UInt8) : Bool := l.contains 47
/-- What stands ahead of the first slash. -/
def firstC (l : List UInt8) : List UInt8 := l.takeWhile (fun c => c != 47)
/-- What the names below a namespace start with. -/
def preOf (ns : List UInt8) : List UInt8 := if ns = [] then [] else ns ++ [47]
/-- Does x lie below one of the namespaces of B (each with its slash)? -/
def inNS (B : List (List UInt8)) (x : List UInt8) : Bool := (List.range x.length).any fun i => (x[i]? == some 47) && B.contains (x.take (i + 1))
def heldB (ev : Bool) (N B : List (List UInt8)) (x : List UInt8) : Bool := ev || (N.contains x || inNS B x)
def allB (ev : Bool) (B : List (List UInt8)) (ns : List UInt8) : Bool := ev || inNS B (preOf ns)
/-- Of a sorted list: the elements that open with p, as a search and a walk find them. -/
def runOf (L : List (List UInt8)) (p : List UInt8) : List (List UInt8) := (L.dropWhile (fun m => decide (m < p))).takeWhile (fun m => p.isPrefixOf m)
def compsOf (L : List (List UInt8)) (p : List UInt8) : List (List UInt8) := (runOf L p).map fun n => firstC (n.drop p.length)
/-- sortedSet. -/
def setOf (l : List (List UInt8)) : List (List UInt8) := Lib.compact (l.mergeSort fun x y => decide (x ≤ y))
def nextB (N B : List (List UInt8)) (ns : List UInt8) : List (List UInt8) := setOf (compsOf N (preOf ns) ++ compsOf B (preOf ns))

/-! ### sortedSet -/
theorem mem_compactUpTo {d : Array (List UInt8)} : ∀ (j : Nat), j < d.size → d[j]! ∈ Lib.compactUpTo d d.size
  | 0, h => by
    unfold Lib.compactUpTo
    exact List.mem_map_of_mem (List.mem_filter.2 ⟨List.mem_range.2 h, by simp [Lib.keeps]⟩)
  | j + 1, h => by
    by_cases hk : Lib.keeps d (j + 1) = true
    · unfold Lib.compactUpTo
      exact List.mem_map_of_mem (List.mem_filter.2 ⟨List.mem_range.2 h, hk⟩)
    · have e : d[j + 1]! = d[j]! := by
        simp [Lib.keeps] at hk
        exact hk
      rw [e]
      exact mem_compactUpTo j (by omega)

theorem mem_compact {l : List (List UInt8)} {x : List UInt8} : x ∈ Lib.compact l ↔ x ∈ l := by
  constructor
  · intro h
    unfold Lib.compact Lib.compactUpTo at h
    obtain ⟨j, hj, rfl⟩ := List.mem_map.1 h
    have hj' : j < l.length := by simpa using (List.mem_filter.1 hj).1
    simp [getElem!_pos, hj']
  · intro h
    obtain ⟨j, hj, rfl⟩ := List.getElem_of_mem h
    have := mem_compactUpTo (d := l.toArray) j (by simpa using hj)
    simpa [Lib.compact, getElem!_pos, hj] using this

theorem mem_setOf {l : List (List UInt8)} {x : List UInt8} : x ∈ setOf l ↔ x ∈ l := by
  unfold setOf
  rw [mem_compact]
  exact List.mem_mergeSort

theorem le_of_sorted {l : List (List UInt8)} : (l.mergeSort fun x y => decide (x ≤ y)).Pairwise (fun x y => x ≤ y) := by
  have h := List.pairwise_mergeSort (le := fun x y : List UInt8 => decide (x ≤ y)) (fun a b c h1 h2 => by simp only [decide_eq_true_eq] at *; exact List.le_trans h1 h2) (fun a b => by simpa using List.le_total a b) l
  simpa using h

theorem lt_of_le_ne {x y : List UInt8} (h : x ≤ y) (hne : y ≠ x) : x < y := by
  by_cases h1 : x < y
  · exact h1
  · exact absurd (List.le_antisymm (List.not_lt.1 h1) h) hne

theorem sorted_compact {l : List (List UInt8)} (h : l.Pairwise (fun x y => x ≤ y)) : (Lib.compact l).Pairwise (fun x y => x < y) := by
  unfold Lib.compact Lib.compactUpTo
  rw [List.pairwise_map]
  have hr : ((List.range l.length).filter (Lib.keeps l.toArray)).Pairwise (fun i j => i < j) := List.Pairwise.filter _ List.pairwise_lt_range
  refine List.Pairwise.imp_of_mem (R := fun i j => i < j) ?_ hr
  intro i j hi hj hij
  have hj1 : j < l.length := by simpa using (List.mem_filter.1 hj).1
  have hj2 := (List.mem_filter.1 hj).2
  have hi1 : i < l.length := by omega
  rw [List.pairwise_iff_getElem] at h
  have hjm : j - 1 < l.length := by omega
  have hne : l[j] ≠ l[j - 1] := by
    simp only [Lib.keeps, decide_eq_true_eq] at hj2
    rcases hj2 with h0 | h0
    · omega
    · simpa [getElem!_pos, hj1, hjm] using h0
  have h1 : l[i] ≤ l[j - 1] := by
    by_cases e : i = j - 1
    · subst e; exact List.le_refl _
    · exact h i (j - 1) hi1 hjm (by omega)
  have h2 : l[j - 1] < l[j] := lt_of_le_ne (h (j - 1) j hjm hj1 (by omega)) hne
  have h3 : l[i] < l[j] := by
    exact List.lt_of_le_of_lt h1 h2
  simpa [getElem!_pos, hj1, hi1] using h3

theorem sorted_setOf (l : List (List UInt8)) : (setOf l).Pairwise (fun x y => x < y) := sorted_compact le_of_sorted

theorem setOf_nil_of {l : List (List UInt8)} (h : setOf l = []) : l = [] := by
  cases l with
  | nil => rfl
  | cons a r =>
    have := (mem_setOf (l := a :: r) (x := a)).2 (by simp)
    rw [h] at this
    cases this

/-! ### names that open with p lie side by side -/
theorem le_of_opens : ∀ {p n : List UInt8}, p <+: n → p ≤ n
  | [], _, _ => List.nil_le _
  | a :: p, n, h => by
    obtain ⟨t, rfl⟩ := h
    have := le_of_opens (p := p) (n := p ++ t) ⟨t, rfl⟩
    rw [List.cons_append, List.cons_le_cons_iff]
    exact Or.inr ⟨rfl, this⟩

theorem opens_between : ∀ {p m n : List UInt8}, p <+: n → p ≤ m → m ≤ n → p <+: m
  | [], m, _, _, _, _ => List.nil_prefix
  | a :: p, m, n, h, h1, h2 => by
    obtain ⟨t, rfl⟩ := h
    cases m with
    | nil => exact absurd h1 (by simp)
    | cons b m =>
      rw [List.cons_append] at h2
      rw [List.cons_le_cons_iff] at h1 h2
      rcases h1 with h1 | ⟨rfl, h1⟩
      · rcases h2 with h2 | ⟨e, h2⟩
        · exact absurd (UInt8.lt_trans h1 h2) (UInt8.lt_irrefl _)
        · subst e; exact absurd h1 (UInt8.lt_irrefl _)
      · rcases h2 with h2 | ⟨_, h2⟩
        · exact absurd h2 (UInt8.lt_irrefl _)
        · have := opens_between (p := p) (m := m) (n := p ++ t) ⟨t, rfl⟩ h1 h2
          obtain ⟨u, rfl⟩ := this
          exact ⟨u, rfl⟩

theorem mem_takeWhile_of {p n : List UInt8} : ∀ {D : List (List UInt8)}, D.Pairwise (fun x y => x < y) → (∀ m ∈ D, p ≤ m) → p <+: n → n ∈ D → n ∈ D.takeWhile (fun m => p.isPrefixOf m)
  | [], _, _, _, h => by cases h
  | d :: D, hs, hp, ho, h => by
    rw [List.pairwise_cons] at hs
    have hd : p <+: d := by
      rcases List.mem_cons.1 h with rfl | h
      · exact ho
      · exact opens_between ho (hp d (by simp)) (List.le_of_lt (hs.1 n h))
    rw [List.takeWhile_cons_of_pos (by simpa using hd)]
    rcases List.mem_cons.1 h with rfl | h
    · simp
    · exact List.mem_cons_of_mem _ (mem_takeWhile_of hs.2 (fun m hm => hp m (by simp [hm])) ho h)

theorem dropWhile_ge {p : List UInt8} : ∀ {L : List (List UInt8)}, L.Pairwise (fun x y => x < y) → ∀ m ∈ L.dropWhile (fun m => decide (m < p)), p ≤ m
  | [], _, m, h => by cases h
  | d :: L, hs, m, h => by
    rw [List.pairwise_cons] at hs
    by_cases hd : d < p
    · rw [List.dropWhile_cons_of_pos (by simpa using hd)] at h
      exact dropWhile_ge hs.2 m h
    · rw [List.dropWhile_cons_of_neg (by simpa using hd)] at h
      have hpd : p ≤ d := List.not_lt.1 hd
      rcases List.mem_cons.1 h with rfl | h
      · exact hpd
      · exact List.le_trans hpd (List.le_of_lt (hs.1 m h))

theorem mem_dropWhile_of {p n : List UInt8} (hn : p ≤ n) : ∀ {L : List (List UInt8)}, n ∈ L → n ∈ L.dropWhile (fun m => decide (m < p))
  | d :: L, h => by
    by_cases hd : d < p
    · rw [List.dropWhile_cons_of_pos (by simpa using hd)]
      rcases List.mem_cons.1 h with rfl | h
      · exact absurd hd (List.not_lt.2 hn)
      · exact mem_dropWhile_of hn h
    · rw [List.dropWhile_cons_of_neg (by simpa using hd)]
      exact h

theorem mem_runOf {L : List (List UInt8)} (hs : L.Pairwise (fun x y => x < y)) {p n : List UInt8} : n ∈ runOf L p ↔ n ∈ L ∧ p <+: n := by
  unfold runOf
  constructor
  · intro h
    refine ⟨(List.dropWhile_sublist _).subset ((List.takeWhile_sublist _).subset h), ?_⟩
    have := List.all_takeWhile (p := fun m => p.isPrefixOf m) (l := L.dropWhile (fun m => decide (m < p)))
    rw [List.all_eq_true] at this
    simpa using this n h
  · rintro ⟨h, ho⟩
    exact mem_takeWhile_of (List.Pairwise.sublist (List.dropWhile_sublist _) hs) (dropWhile_ge hs) ho (mem_dropWhile_of (le_of_opens ho) h)

/-! ### the first component -/
theorem slash_firstC (l : List UInt8) : slashB (firstC l) = false := by
  unfold slashB firstC
  have := List.all_takeWhile (p := fun c : UInt8 => c != 47) (l := l)
  rw [List.all_eq_true] at this
  rw [← Bool.not_eq_true, List.contains_iff_mem]
  intro h
  simpa using this 47 h

theorem firstC_none : ∀ {l : List UInt8}, 47 ∉ l → firstC l = l
  | [], _ => rfl
  | a :: l, h => by
    have h1 : a ≠ 47 := fun e => h (by simp [e])
    have h2 := firstC_none (l := l) (fun e => h (by simp [e]))
    unfold firstC at *
    rw [List.takeWhile_cons_of_pos (by simpa using h1), h2]

theorem firstC_some : ∀ {l : List UInt8}, 47 ∈ l → ∃ t, l = firstC l ++ 47 :: t
  | a :: l, h => by
    by_cases e : a = 47
    · subst e; exact ⟨l, by simp [firstC]⟩
    · have h' : 47 ∈ l := by
        rcases List.mem_cons.1 h with h | h
        · exact absurd h.symm e
        · exact h
      obtain ⟨t, ht⟩ := firstC_some h'
      refine ⟨t, ?_⟩
      have : firstC (a :: l) = a :: firstC l := by unfold firstC; rw [List.takeWhile_cons_of_pos (by simpa using e)]
      rw [this, List.cons_append, ← ht]

theorem firstC_take : ∀ {r : List UInt8} {j : Nat}, r[j]? = some 47 → firstC (r.take (j + 1)) = firstC r
  | [], j, h => by simp at h
  | a :: r, 0, h => by
    simp at h
    subst h
    simp [firstC]
  | a :: r, j + 1, h => by
    have ih := firstC_take (r := r) (j := j) (by simpa using h)
    rw [List.take_succ_cons]
    by_cases e : a = 47
    · subst e; simp [firstC]
    · unfold firstC at *
      rw [List.takeWhile_cons_of_pos (by simpa using e), List.takeWhile_cons_of_pos (by simpa using e), ih]

/-! ### namespaces -/
theorem inNS_iff {B : List (List UInt8)} {x : List UInt8} : inNS B x = true ↔ ∃ i, x[i]? = some 47 ∧ x.take (i + 1) ∈ B := by
  unfold inNS
  rw [List.any_eq_true]
  constructor
  · rintro ⟨i, _, h⟩
    simp at h
    exact ⟨i, h.1, h.2⟩
  · rintro ⟨i, h1, h2⟩
    refine ⟨i, ?_, by simp [h1, h2]⟩
    have := (List.getElem?_eq_some_iff.1 h1).1
    simpa using this

theorem inNS_mono {B : List (List UInt8)} {p x : List UInt8} (h : p <+: x) (hp : inNS B p = true) : inNS B x = true := by
  rw [inNS_iff] at *
  obtain ⟨i, h1, h2⟩ := hp
  obtain ⟨t, rfl⟩ := h
  have hi := (List.getElem?_eq_some_iff.1 h1).1
  refine ⟨i, by rw [List.getElem?_append_left hi]; exact h1, ?_⟩
  rw [List.take_append_of_le_length (by omega)]
  exact h2

/-- What the walk of one name gives. -/
theorem mem_compsOf {L : List (List UInt8)} (hs : L.Pairwise (fun x y => x < y)) {p c : List UInt8} : c ∈ compsOf L p ↔ ∃ r, p ++ r ∈ L ∧ c = firstC r := by
  unfold compsOf
  rw [List.mem_map]
  constructor
  · rintro ⟨n, hn, rfl⟩
    obtain ⟨h1, t, rfl⟩ := (mem_runOf hs).1 hn
    exact ⟨t, h1, by simp⟩
  · rintro ⟨r, h, rfl⟩
    exact ⟨p ++ r, (mem_runOf hs).2 ⟨h, r, rfl⟩, by simp⟩

theorem mem_nextB {N B : List (List UInt8)} (hN : N.Pairwise (fun x y => x < y)) (hB : B.Pairwise (fun x y => x < y)) {ns c : List UInt8} :
    c ∈ nextB N B ns ↔ ∃ r, (preOf ns ++ r ∈ N ∨ preOf ns ++ r ∈ B) ∧ c = firstC r := by
  unfold nextB
  rw [mem_setOf, List.mem_append, mem_compsOf hN, mem_compsOf hB]
  constructor
  · rintro (⟨r, h, e⟩ | ⟨r, h, e⟩)
    · exact ⟨r, Or.inl h, e⟩
    · exact ⟨r, Or.inr h, e⟩
  · rintro ⟨r, h | h, e⟩
    · exact Or.inl ⟨r, h, e⟩
    · exact Or.inr ⟨r, h, e⟩

/-- A listed component's child. -/
def childOf (ns c : List UInt8) : List UInt8 := if ns = [] then c else ns ++ [47] ++ c

theorem childOf_eq (ns c : List UInt8) : childOf ns c = preOf ns ++ c := by
  unfold childOf preOf
  by_cases h : ns = [] <;> simp [h]

theorem preOf_opens (c t : List UInt8) : preOf c <+: c ++ 47 :: t := by
  unfold preOf
  by_cases h : c = []
  · simp [h]
  · simp only [h, if_false]
    exact ⟨t, by simp⟩

theorem inNS_self {B : List (List UInt8)} {q : List UInt8} (h : q ++ [47] ∈ B) : inNS B (q ++ [47]) = true := by
  rw [inNS_iff]
  exact ⟨q.length, by simp, by rw [List.take_of_length_le (by simp)]; exact h⟩

/-- THE FIRST LAW: what is listed leads to names that are held. -/
theorem leads {ev : Bool} {N B : List (List UInt8)} (hN : N.Pairwise (fun x y => x < y)) (hB : B.Pairwise (fun x y => x < y)) (hend : ∀ b ∈ B, ∃ q, b = q ++ [47]) {ns c : List UInt8}
    (hall : allB ev B ns = false) (hc : c ∈ nextB N B ns) :
    heldB ev N B (childOf ns c) = true ∨ nextB N B (childOf ns c) ≠ [] := by
  obtain ⟨r, hr, rfl⟩ := (mem_nextB hN hB).1 hc
  rw [childOf_eq]
  by_cases hsl : 47 ∈ r
  · right
    obtain ⟨t, ht⟩ := firstC_some hsl
    have ho : preOf (preOf ns ++ firstC r) <+: preOf ns ++ r := by
      have := preOf_opens (preOf ns ++ firstC r) t
      rw [List.append_assoc, ← ht] at this
      exact this
    obtain ⟨u, hu⟩ := ho
    intro h0
    have hm : firstC u ∈ nextB N B (preOf ns ++ firstC r) := (mem_nextB hN hB).2 ⟨u, by rw [hu]; exact hr, rfl⟩
    rw [h0] at hm
    cases hm
  · left
    rw [firstC_none hsl]
    rcases hr with hr | hr
    · simp [heldB, hr]
    · exfalso
      obtain ⟨q, hq⟩ := hend _ hr
      have hr0 : r = [] := by
        rcases List.eq_nil_or_concat r with h | ⟨r', a, rfl⟩
        · exact h
        · rw [List.concat_eq_append] at *
          rw [← List.append_assoc] at hq
          have := (List.append_inj' hq rfl).2
          simp at this
          subst this
          simp at hsl
      subst hr0
      rw [List.append_nil] at hr hq
      rw [hq] at hr
      have := inNS_self hr
      rw [← hq] at this
      simp [allB, this] at hall

/-- THE SECOND LAW, 'all'. -/
theorem all_held {ev : Bool} {N B : List (List UInt8)} {ns x : List UInt8} (ho : preOf ns <+: x) (hall : allB ev B ns = true) : heldB ev N B x = true := by
  unfold allB at hall
  unfold heldB
  rcases Bool.or_eq_true_iff.1 hall with h | h
  · simp [h]
  · simp [inNS_mono ho h]

/-- THE SECOND LAW, not 'all'. -/
theorem held_listed {ev : Bool} {N B : List (List UInt8)} (hN : N.Pairwise (fun x y => x < y)) (hB : B.Pairwise (fun x y => x < y)) {ns x : List UInt8}
    (ho : preOf ns <+: x) (hall : allB ev B ns = false) (hh : heldB ev N B x = true) : firstC (x.drop (preOf ns).length) ∈ nextB N B ns := by
  obtain ⟨r, rfl⟩ := ho
  rw [List.drop_left, mem_nextB hN hB]
  unfold allB at hall
  rw [Bool.or_eq_false_iff] at hall
  obtain ⟨rfl, hns⟩ := hall
  simp only [heldB, Bool.false_or, Bool.or_eq_true, List.contains_iff_mem] at hh
  rcases hh with h | h
  · exact ⟨r, Or.inl h, rfl⟩
  · obtain ⟨i, h1, h2⟩ := inNS_iff.1 h
    by_cases hi : i < (preOf ns).length
    · exfalso
      have : inNS B (preOf ns) = true := inNS_iff.2 ⟨i, by rw [List.getElem?_append_left hi] at h1; exact h1, by rw [List.take_append_of_le_length (by omega)] at h2; exact h2⟩
      rw [this] at hns
      cases hns
    · rw [List.getElem?_append_right (by omega)] at h1
      refine ⟨r.take (i - (preOf ns).length + 1), Or.inr ?_, (firstC_take h1).symm⟩
      rw [List.take_append, List.take_of_length_le (by omega), show i + 1 - (preOf ns).length = i - (preOf ns).length + 1 by omega] at h2
      exact h2

end Go.Proofs.Qxb6600023a
