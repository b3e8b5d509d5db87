/-
  declared and ZZDeclared, at a content that the law has written.
-/
import Derived.Test.Qxb6600207aMatch
namespace Go.Proofs.Qxb6600207a
open Go.RowKit
set_option linter.unusedVariables false

/-! ### plain -/
def nums (l : List UInt8) : List Int := l.map fun b => (b.toNat : Int)
theorem nums_length (l : List UInt8) : (nums l).length = l.length := by simp [nums]
theorem nums_range (l : List UInt8) : ∀ x ∈ nums l, 0 ≤ x ∧ x < 256 := by
  intro x hx
  obtain ⟨b, _, rfl⟩ := List.mem_map.1 hx
  have := b.toNat_lt
  omega
theorem bytesOf_nums (l : List UInt8) : Lib.bytesOf (nums l) = l := by
  unfold Lib.bytesOf nums
  rw [List.map_map]
  conv => rhs; rw [← List.map_id l]
  apply List.map_congr_left
  intro b _
  simp
theorem nums_getD (l : List UInt8) (j : Nat) : (nums l).getD j 0 = ((l.getD j 0).toNat : Int) := by
  rw [List.getD_eq_getElem?_getD, List.getD_eq_getElem?_getD]
  unfold nums
  rw [List.getElem?_map]
  cases l[j]? <;> simp

theorem first_quote {q : UInt8} : ∀ (V R : List UInt8), q ∉ V → Lib.indexByte (V ++ q :: R) q = (V.length : Int)
  | [], R, _ => by simp [Lib.indexByte]
  | a :: V, R, h => by
    have ih := first_quote (q := q) V R (fun e => h (by simp [e]))
    have ha : ¬ a = q := fun e => h (by simp [e])
    rw [List.cons_append]
    unfold Lib.indexByte
    rw [ih]
    have h1 : ¬ ((V.length : Int) = -1) := by omega
    simp [ha, h1]

/-- The content that the law writes. -/
def content (P K V R : List UInt8) (q : UInt8) : List UInt8 := P ++ (K ++ (q :: (V ++ (q :: R))))

theorem content_length (P K V R : List UInt8) (q : UInt8) : (content P K V R q).length = P.length + K.length + V.length + R.length + 2 := by
  simp [content]; omega

theorem content_index {P K V R : List UInt8} {q : UInt8} (hno : ∀ p, p < P.length → occB (content P K V R q) K p = false) : Lib.index (content P K V R q) K = (P.length : Int) := by
  refine Lib.index_hit (fun j hj => hno j hj) (by rw [content_length]; omega) ?_
  unfold Lib.occAt content
  rw [List.drop_left, List.isPrefixOf_iff_prefix]
  exact List.prefix_append _ _

theorem content_quote (P K V R : List UInt8) (q : UInt8) : (content P K V R q).getD (P.length + K.length) 0 = q := by
  unfold content
  rw [List.getD_eq_getElem?_getD, List.getElem?_append_right (by omega), List.getElem?_append_right (by omega)]
  simp

theorem content_tail (P K V R : List UInt8) (q : UInt8) (j : Nat) : (content P K V R q).getD (P.length + K.length + 1 + j) 0 = (V ++ q :: R).getD j 0 := by
  unfold content
  rw [List.getD_eq_getElem?_getD, List.getElem?_append_right (by omega), List.getElem?_append_right (by omega), List.getD_eq_getElem?_getD]
  rw [show P.length + K.length + 1 + j - P.length - K.length = j + 1 by omega, List.getElem?_cons_succ]

/-! ### []byte(s) -/
theorem conv_any (s : ByteArray) (w : World) : ∃ c w', (convert 9 28 (.string s)).run Try.prog w = .ok (.slice (some ⟨w.heap.size, 0, none⟩) s.size c) w' ∧ Below w.heap.size w w' ∧ Row w' (some ⟨w.heap.size, 0, none⟩) s.data.toList ∧ s.size ≤ c := by
  refine ⟨_, _, run_bytes_of_string w 9 28 5 s Try.underlying9 Try.underlying28 Try.underlying5, ?_, ?_, grownCap_ge w s.size 0 5⟩
  · exact ((Below.refl _ _).drew).alloc (Nat.le_refl _) _
  · refine Or.inr ⟨w.heap.size, 0, rfl, fun j hj => ?_⟩
    have hj' : j < s.data.size := by simpa using hj
    rw [cell_of_row _ w.heap.size (0 + j) _ _ _ (heap_alloc_new w.drew _), Nat.zero_add, bytesRow_at s _ j hj']
    rw [List.getD_eq_getElem?_getD, List.getElem?_eq_getElem hj]
    rfl

/-! ### declared -/
theorem ret_slice {s : Option Addr} {a b c : Nat} (h : a = b) : Ending.returned (.slice s a c) = .returned (.slice s b c) := by rw [h]

/-- What declared hands back: the value, cut out of the content. -/
def DeclLeft (g p n : Nat) (w : World) (e : Ending) (w' : World) : Prop := (∃ c, e = .returned (.slice (some ⟨g, p, none⟩) n c)) ∧ Below w.heap.size w w'

theorem key_list (param : ByteArray) : (param ++ ⟨#[61]⟩ : ByteArray).data.toList = param.data.toList ++ [61] := by simp

set_option maxHeartbeats 2000000 in
theorem declared_any (g cap : Nat) (param : ByteArray) (P K V R : List UInt8) (q : UInt8) (m : Int) (w : World) (hK : K = param.data.toList ++ [61]) (hq : q = 34 ∨ q = 39) (hV : q ∉ V) (hrow : Row w (some ⟨g, 0, none⟩) (content P K V R q))
    (hcap : (content P K V R q).length ≤ cap) (hb : (content P K V R q).length ≤ 2097152) (hno : ∀ p, p < P.length → occB (content P K V R q) K p = false) (hm : w.cell? ⟨0, 0, none⟩ = some (.int .i64 m)) :
    Calls Try.prog 19 #[.slice (some ⟨g, 0, none⟩) (content P K V R q).length cap, .string param] w (DeclLeft g (P.length + K.length + 1) V.length w) := by
  obtain ⟨ks, hks⟩ : ∃ ks, param ++ ⟨#[61]⟩ = ks := ⟨_, rfl⟩
  have hksl : ks.data.toList = K := by rw [← hks, hK]; exact key_list param
  have hkss : ks.size = K.length := by rw [← hksl]; simp
  obtain ⟨ck, w1, hcv, hbel1, hrowk, hck⟩ := conv_any ks w
  have hrow1 := hrow.below hbel1
  have hm1 : w1.cell? ⟨0, 0, none⟩ = some (.int .i64 m) := (hbel1.cell (lt_of_cell hm)).trans hm
  have hlen := content_length P K V R q
  have hrowL : ∀ j, j < (content P K V R q).length → w1.cell? ⟨g, 0 + j, none⟩ = some (.int .u8 (((content P K V R q).getD j 0).toNat : Int)) := by
    intro j hj
    obtain ⟨b, off, e, hc⟩ := hrow1.at hj
    cases e
    exact hc
  have HIx : Hid (Calls Try.prog 20 #[.slice (some ⟨g, 0, none⟩) (content P K V R q).length cap, .slice (some ⟨w.heap.size, 0, none⟩) ks.size ck] w1 fun e w' => e = .returned (.int .i64 (P.length : Int)) ∧ ∃ q, w' = w1.drewN q) := by
    have h := Try.bytes_Index_at ⟨g, 0, none⟩ ⟨w.heap.size, 0, none⟩ (content P K V R q).length cap ks.size ck (nums (content P K V R q)) (nums ks.data.toList) m w1 (nums_length _) (by rw [nums_length, hksl, hkss]) (nums_range _) (nums_range _)
      (fun i hi => by rw [Go.WideShapes.add_plain, nums_getD]; exact hrowL i hi)
      (fun i hi => by
        rw [Go.WideShapes.add_plain, nums_getD]
        obtain ⟨b, off, e, hc⟩ := hrowk.at (k := i) (by rw [hksl, ← hkss]; exact hi)
        cases e
        exact hc) hcap (by omega) (by omega) hm1
    rw [bytesOf_nums, bytesOf_nums, hksl, content_index hno] at h
    exact h
  have hquote : w1.cell? ⟨g, P.length + K.length, none⟩ = some (.int .u8 (q.toNat : Int)) := by
    have h := hrowL (P.length + K.length) (by omega)
    rw [content_quote, Nat.zero_add] at h
    exact h
  have HBy : Hid (∀ c n, n = V.length + R.length + 1 → ∀ qd, Calls Try.prog 21 #[.slice (some ⟨g, P.length + K.length + 1, none⟩) n c, .int .u8 (q.toNat : Int)] (w1.drewN qd) fun e w' => e = .returned (.int .i64 (V.length : Int)) ∧ w' = w1.drewN qd) := by
    intro c n hn qd
    subst hn
    have h := Try.bytes_IndexByte_at ⟨g, P.length + K.length + 1, none⟩ (V.length + R.length + 1) c (nums (V ++ q :: R)) (q.toNat : Int) (w1.drewN qd) (by rw [nums_length]; simp; omega)
      (fun i hi => by
        rw [Go.WideShapes.add_plain, nums_getD, ← content_tail P K V R q i]
        have h := hrowL (P.length + K.length + 1 + i) (by omega)
        rw [Nat.zero_add] at h
        simpa using h)
    rw [bytesOf_nums] at h
    have e : (q.toNat : Int).toNat.toUInt8 = q := by simp
    rw [e, first_quote V R hV] at h
    exact h
  have HB1 := hid hbel1
  have hpsz : param.size + 1 ≤ 2097152 := by
    have h1 : K.length = param.size + 1 := by rw [hK]; simp
    omega
  rw [hkss] at hcv hck HIx
  obtain ⟨n, hn⟩ : ∃ n, (content P K V R q).length = n := ⟨_, rfl⟩
  rw [hn] at hlen hb hcap HIx ⊢
  have HL := hid hlen
  generalize hp : P.length = p at *
  generalize hkk : K.length = kk at *
  generalize hv : V.length = vn at *
  generalize hr : R.length = rn at *
  have hlen2 : p + kk + vn + rn + 2 ≤ n := by omega
  have hlen3 : n ≤ p + kk + vn + rn + 2 := by omega
  clear hlen hK hV hrow hno hm hksl hbel1 hrowk hrow1 hm1 hrowL hp hkk hv hr hn hkss
  have hq256 : (q.toNat : Int) = 34 ∨ (q.toNat : Int) = 39 := by rcases hq with h | h <;> subst h <;> simp
  clear hq
  generalize (q.toNat : Int) = z at *
  have hne : ((p : Int) + (kk : Int) == (n : Int)) = false := by
    rw [beq_eq_false_iff_ne]
    omega
  have hp0 : ¬ (p : Int) < 0 := by omega
  have hcd : p + kk < cap := by omega
  rcases hq256 with rfl | rfl
  · go_enter Try.func19, Try.ntmps19
    go_wp2_with fail
    refine wp_loop_rounds 1 ?_
    rw [rounds_succ]
    go_wp2_with (go_at_call 20; refine HIx.out.mono ?_; rintro e w2 ⟨rfl, q2, rfl⟩)
    refine (HBy.out _ _ (by omega) _).mono ?_
    rintro e w3 ⟨rfl, hw3⟩
    obtain rfl := hw3.symm
    go_wp2
    go_ret
    exact ⟨⟨_, ret_slice (by omega : 1 + vn - 1 = vn)⟩, below_drewN HB1.out _⟩
  · go_enter Try.func19, Try.ntmps19
    go_wp2_with fail
    refine wp_loop_rounds 1 ?_
    rw [rounds_succ]
    go_wp2_with (go_at_call 20; refine HIx.out.mono ?_; rintro e w2 ⟨rfl, q2, rfl⟩)
    refine (HBy.out _ _ (by omega) _).mono ?_
    rintro e w3 ⟨rfl, hw3⟩
    obtain rfl := hw3.symm
    go_wp2
    go_ret
    exact ⟨⟨_, ret_slice (by omega : 1 + vn - 1 = vn)⟩, below_drewN HB1.out _⟩

set_option maxHeartbeats 400000 in
theorem zzdeclared {g p n : Nat} {c : Value} {param : ByteArray} {w : World} (h : Calls Try.prog 19 #[c, .string param] w (DeclLeft g p n w)) : Calls Try.prog 12 #[c, .string param] w (DeclLeft g p n w) := by
  have H := hid h
  clear h
  go_enter Try.func12, Try.ntmps12
  go_wp2_with (go_at_call 19; refine H.out.mono ?_; rintro e w' ⟨⟨c', rfl⟩, hb⟩; have HB := hid hb; clear hb)
  go_ret
  exact ⟨⟨_, rfl⟩, HB.out⟩
end Go.Proofs.Qxb6600207a
