/-
  THE WALK of FnDeclaredReadsBackWrittenValue.
-/
import Derived.Test.Qxb6600207aGrow
import Derived.Deep.Cut
namespace Go.Proofs.Qxb6600207a
open Go.RowKit
set_option linter.unusedVariables false

/-- The law's own words for what it leaves. -/
def LawLeft (w : World) (e : Ending) (w' : World) : Prop := e = .returned (.bool true) ∧ Below w.heap.size w w'

set_option maxRecDepth 100000 in
set_option maxHeartbeats 4000000 in
theorem back_walk (a0 : Option Addr) (c0 : Nat) (P : List UInt8) (param : ByteArray) (a2 : Option Addr) (c2 : Nat) (V : List UInt8) (sg : Bool) (a4 : Option Addr) (c4 : Nat) (R : List UInt8) (m : Int) (w : World)
    (h0 : P.length ≤ maxLen) (hp : param.size ≤ maxLen) (h2 : V.length ≤ maxLen) (h4 : R.length ≤ maxLen) (hR0 : Row w a0 P) (hR2 : Row w a2 V) (hR4 : Row w a4 R) (hm : w.cell? ⟨0, 0, none⟩ = some (.int .i64 m)) :
    Calls Try.prog 6 #[.slice a0 P.length c0, .string param, .slice a2 V.length c2, .bool sg, .slice a4 R.length c4] w (LawLeft w) := by
  by_cases htot : 1048576 < P.length + param.size + V.length + R.length
  · have HN := hid (small_no a0 a2 a4 P.length c0 V.length c2 R.length c4 param sg w htot h0 hp h2 h4)
    clear hR0 hR2 hR4 hm htot
    go_enter Try.func6, Try.ntmps6
    go_wp2_with (go_at_call 15; refine HN.out.mono ?_; rintro e w' ⟨rfl, hw⟩; obtain rfl := hw.symm)
    go_ret
    exact ⟨rfl, Below.refl _ _⟩
  have HY := hid (small_yes a0 a2 a4 P.length c0 V.length c2 R.length c4 param sg w (by omega))
  have HR := hid (And.intro hR0 (And.intro hR2 (And.intro hR4 hm)))
  clear hR0 hR2 hR4 hm h0 hp h2 h4
  by_cases hl0 : 65536 < P.length
  · go_enter Try.func6, Try.ntmps6
    go_wp2_with (go_at_call 15; refine HY.out.mono ?_; rintro e w' ⟨rfl, hw⟩; obtain rfl := hw.symm)
    go_ret
    exact ⟨rfl, Below.refl _ _⟩
  by_cases hl1 : 4096 < param.size
  · go_enter Try.func6, Try.ntmps6
    go_wp2_with (go_at_call 15; refine HY.out.mono ?_; rintro e w' ⟨rfl, hw⟩; obtain rfl := hw.symm)
    go_ret
    exact ⟨rfl, Below.refl _ _⟩
  by_cases hl2 : 65536 < V.length
  · go_enter Try.func6, Try.ntmps6
    go_wp2_with (go_at_call 15; refine HY.out.mono ?_; rintro e w' ⟨rfl, hw⟩; obtain rfl := hw.symm)
    go_ret
    exact ⟨rfl, Below.refl _ _⟩
  by_cases hl4 : 65536 < R.length
  · go_enter Try.func6, Try.ntmps6
    go_wp2_with (go_at_call 15; refine HY.out.mono ?_; rintro e w' ⟨rfl, hw⟩; obtain rfl := hw.symm)
    go_ret
    exact ⟨rfl, Below.refl _ _⟩
  go_enter Try.func6, Try.ntmps6
  go_upto_if 42 with (go_at_call 15; refine HY.out.mono ?_; rintro e w' ⟨rfl, hw⟩; obtain rfl := hw.symm)
  go_cut [11] from 17 (fun s11 wr => wr = w ∧ ∃ q : UInt8, (q = 34 ∨ q = 39) ∧ s11 = .int .u8 (q.toNat : Int))
  case first =>
    cases sg with
    | true =>
      go_wp2
      go_meet
      case rel => exact ⟨rfl, 39, Or.inr rfl, rfl⟩
    | false =>
      go_wp2
      go_meet
      case rel => exact ⟨rfl, 34, Or.inl rfl, rfl⟩
  case rest =>
    obtain ⟨hwc, q, hq, rfl⟩ := hcut
    obtain rfl := hwc.symm
    have HQ := hid hq
    clear hq HY
    go_wp2_with fail
    go_loop [12] (fun i => ∃ k : Nat, k ≤ V.length ∧ i = .int .i64 k ∧ NoQ V q k) (fun i => V.length - (intOf i).toNat)
    case atStart => exact ⟨0, Nat.zero_le _, rfl, fun j hj => by omega⟩
    case round =>
      obtain ⟨k, hk, rfl, hno⟩ := hrel
      by_cases hlt : k < V.length
      · obtain ⟨b, off, rfl, hcell⟩ := HR.out.2.1.at hlt
        have HN := hid (fun h => hno.next h)
        clear hno
        generalize (V.getD k 0).toNat = z at hcell HN
        go_wp2
        · go_ret
          exact ⟨rfl, Below.refl _ _⟩
        · go_round
          case rel => exact ⟨k + 1, by omega, by go_num, HN.out (by assumption)⟩
          case measure => simp [intOf]; omega
      · have HV : Hid (q ∉ V) := NoQ.all (by obtain rfl : k = V.length := by omega
                                             exact hno)
        clear hno
        go_wp2_with fail
        refine (clone_any a0 c0 P w (by omega) HR.out.1).mono ?_
        rintro e w1 ⟨v0, rfl, hown0, hbel1⟩
        obtain ⟨b0, d0, hv0, hnn0, hrow0⟩ := hown0.row
        subst hv0
        have HC1 : Hid (Row w1 b0 P ∧ (b0 = none → P.length = 0 ∧ d0 = 0) ∧ Below w.heap.size w w1) := ⟨hrow0, hnn0, hbel1⟩
        clear hown0 hbel1 hnn0 hrow0
        go_wp2_with fail
        refine (clone_any a2 c2 V w1 (by omega) (HR.out.2.1.below HC1.out.2.2)).mono ?_
        rintro e w2 ⟨v2, rfl, hown2, hbel2⟩
        obtain ⟨b2, d2, hv2, hnn2, hrow2⟩ := hown2.row
        subst hv2
        have HC2 : Hid (Row w2 b2 V ∧ (b2 = none → V.length = 0 ∧ d2 = 0) ∧ Below w.heap.size w w2 ∧ Row w2 b0 P) := ⟨hrow2, hnn2, HC1.out.2.2.trans (hbel2.mono HC1.out.2.2.size), HC1.out.1.below hbel2⟩
        clear hown2 hbel2 hnn2 hrow2
        go_wp2_with fail
        refine (clone_any a4 c4 R w2 (by omega) (HR.out.2.2.1.below HC2.out.2.2.1)).mono ?_
        rintro e w3 ⟨v4, rfl, hown4, hbel4⟩
        obtain ⟨b4, d4, hv4, hnn4, hrow4⟩ := hown4.row
        subst hv4
        have HC3 : Hid (Row w3 b4 R ∧ (b4 = none → R.length = 0 ∧ d4 = 0) ∧ Below w.heap.size w w3 ∧ Row w3 b0 P ∧ Row w3 b2 V) := ⟨hrow4, hnn4, HC2.out.2.2.1.trans (hbel4.mono HC2.out.2.2.1.size), HC2.out.2.2.2.below hbel4, HC2.out.1.below hbel4⟩
        clear hown4 hbel4 hnn4 hrow4
        obtain ⟨ks, hks⟩ : ∃ ks, param ++ ⟨#[61]⟩ = ks := ⟨_, rfl⟩
        have HK : Hid (ks.data.toList = param.data.toList ++ [61]) := by rw [← hks]; exact key_list param
        have hkz : ks.size = param.size + 1 := by
          have h : ks.data.toList.length = param.size + 1 := by rw [HK.out]; simp
          simpa using h
        have hkz1 : ks.size ≤ param.size + 1 := by omega
        have hkz2 : param.size + 1 ≤ ks.size := by omega
        clear hkz
        obtain ⟨cap, hcap1, hcap2⟩ : ∃ cap, cap ≤ P.length + ks.size + V.length + R.length + 2 ∧ P.length + ks.size + V.length + R.length + 2 ≤ cap := ⟨_, Nat.le_refl _, Nat.le_refl _⟩
        obtain ⟨i0, hi, hz0, hz1, hz2⟩ := info_parts info5
        obtain ⟨k1, ha1, hb1⟩ : ∃ k, k ≤ P.length ∧ P.length ≤ k := ⟨_, Nat.le_refl _, Nat.le_refl _⟩
        obtain ⟨k2, ha2, hb2⟩ : ∃ k, k ≤ k1 + ks.size ∧ k1 + ks.size ≤ k := ⟨_, Nat.le_refl _, Nat.le_refl _⟩
        obtain ⟨k3, ha3, hb3⟩ : ∃ k, k ≤ k2 + 1 ∧ k2 + 1 ≤ k := ⟨_, Nat.le_refl _, Nat.le_refl _⟩
        obtain ⟨k4, ha4, hb4⟩ : ∃ k, k ≤ k3 + V.length ∧ k3 + V.length ≤ k := ⟨_, Nat.le_refl _, Nat.le_refl _⟩
        obtain ⟨k5, ha5, hb5⟩ : ∃ k, k ≤ k4 + 1 ∧ k4 + 1 ≤ k := ⟨_, Nat.le_refl _, Nat.le_refl _⟩
        obtain ⟨k6, ha6, hb6⟩ : ∃ k, k ≤ k5 + R.length ∧ k5 + R.length ≤ k := ⟨_, Nat.le_refl _, Nat.le_refl _⟩
        go_wp2_with (first
          | (at_make; refine wpList_make_own _ rfl (.const (.int .i64 0)) (.tmp 74) 28 rfl w3.heap.size 5 i0 (.int .u8 0) 1 Try.underlying28 hi hz0 hz1 .i64 .i64 _ cap rfl rfl (by omega) (by rw [hz2]; omega) (by unfold maxLen; omega) (Nat.le_refl _) ?_; intro w4 hown4 hgrow4; have G0 : Hid (Grows w3 w3.heap.size cap 0 [] w4) := ⟨hown4, (Below.refl _ _).grown hgrow4 (Nat.le_refl _) (fun k hk => by cases hk), rfl⟩; clear hown4 hgrow4)
          | (at_builtin; refine append_row _ rfl (.tmp 76) (.tmp 77) rfl w3 w3.heap.size cap 0 _ rfl G0.out b0 P.length d0 P rfl rfl HC1.out.2.1 (HC3.out.2.2.2.1.below G0.out.bel) k1 (by omega) (by omega) ?_; intro w5 G1)
          | (at_builtin; refine append_str _ rfl (.tmp 79) (.tmp 80) rfl w3 w3.heap.size cap k1 _ rfl G1.out ks rfl k2 (by omega) (by omega) ?_; intro w6 G2)
          | (at_builtin; refine append_row _ rfl (.tmp 82) (.tmp 84) rfl w3 w3.heap.size cap k2 _ rfl (G2.out.alloc _) (some ⟨w6.heap.size, 0, none⟩) 1 1 [q] rfl rfl (fun h => by cases h) (row_one _ _) k3 (by omega) (by omega) ?_; intro w7 G3)
          | (at_builtin; refine append_row _ rfl (.tmp 86) (.tmp 87) rfl w3 w3.heap.size cap k3 _ rfl G3.out b2 V.length d2 V rfl rfl HC2.out.2.1 (HC3.out.2.2.2.2.below G3.out.bel) k4 (by omega) (by omega) ?_; intro w8 G4)
          | (at_builtin; refine append_row _ rfl (.tmp 89) (.tmp 91) rfl w3 w3.heap.size cap k4 _ rfl (G4.out.alloc _) (some ⟨w8.heap.size, 0, none⟩) 1 1 [q] rfl rfl (fun h => by cases h) (row_one _ _) k5 (by omega) (by omega) ?_; intro w9 G5)
          | (at_builtin; refine append_row _ rfl (.tmp 93) (.tmp 94) rfl w3 w3.heap.size cap k5 _ rfl G5.out b4 R.length d4 R rfl rfl HC3.out.2.1 (HC3.out.1.below G5.out.bel) k6 (by omega) (by omega) ?_; intro w10 G6))
        have hGw := G6.out
        rw [written] at hGw
        have hk6 : (content P ks.data.toList V R q).length = k6 := hGw.len.symm
        have hkl : ks.data.toList ≠ [] := by rw [HK.out]; simp
        have HM : Hid (∀ p qd : Nat, p ≤ 65536 → Calls Try.prog 16 #[.slice (some ⟨w3.heap.size, 0, none⟩) k6 cap, .int .i64 p, .string ks] (w10.drewN qd) fun e w' => e = .returned (.bool (occB (content P ks.data.toList V R q) ks.data.toList p)) ∧ ∃ q, w' = (w10.drewN qd).drewN q) := by
          intro p qd hp
          have h := match_any (some ⟨w3.heap.size, 0, none⟩) cap p (content P ks.data.toList V R q) ks (w10.drewN qd) hGw.row.draws (by omega) (by omega) hkl (by omega)
          rw [hk6] at h
          exact h
        have HW : Hid (Below w.heap.size w w10) := HC3.out.2.2.1.trans (hGw.bel.mono HC3.out.2.2.1.size)
        have hm10 : w10.cell? ⟨0, 0, none⟩ = some (.int .i64 m) := (HW.out.cell (lt_of_cell HR.out.2.2.2)).trans HR.out.2.2.2
        have HD : Hid (NoM (content P ks.data.toList V R q) ks.data.toList P.length → ∀ qd, Calls Try.prog 12 #[.slice (some ⟨w3.heap.size, 0, none⟩) k6 cap, .string param] (w10.drewN qd) (DeclLeft w3.heap.size (P.length + ks.data.toList.length + 1) V.length (w10.drewN qd))) := by
          intro hno qd
          have h := zzdeclared (declared_any w3.heap.size cap param P ks.data.toList V R q m (w10.drewN qd) HK.out HQ.out HV.out hGw.row.draws (by omega) (by omega) hno (by simpa using hm10))
          rw [hk6] at h
          exact h
        have HE : Hid (∀ (w11 : World) (c : Nat), Below w10.heap.size w10 w11 → Calls Try.prog 14 #[.slice (some ⟨w3.heap.size, P.length + ks.data.toList.length + 1, none⟩) V.length c, .slice b2 V.length d2] w11 fun e w' => e = .returned (.bool true) ∧ ∃ q, w' = w11.drewN q) := by
          intro w11 c hb
          exact same_yes _ _ _ _ V w11 (by omega) ((value_row hGw).below hb) ((HC3.out.2.2.2.2.below hGw.bel).below hb)
        clear hGw hk6 hkl hm10 G0 G1 G2 G3 G4 G5 G6 HC1 HC2 HC3
        go_loopw [15] (fun i wr => ∃ k qd : Nat, k ≤ P.length ∧ i = .int .i64 k ∧ wr = w10.drewN qd ∧ NoM (content P ks.data.toList V R q) ks.data.toList k) (fun i _ => P.length - (intOf i).toNat)
        case atStart => exact ⟨0, 0, Nat.zero_le _, rfl, rfl, fun j hj => by omega⟩
        case round =>
          obtain ⟨k', qd, hk', rfl, rfl, hno⟩ := hrel
          by_cases hlt' : k' < P.length
          · have HN := hid (fun h => hno.next h)
            clear hno
            have HMk := hid (HM.out k' qd (by omega))
            cases ho : occB (content P ks.data.toList V R q) ks.data.toList k' with
            | true =>
              have h := HMk.out
              rw [ho] at h
              have HMo := hid h
              clear h ho HMk HN
              go_wp2_with (go_at_call 16; refine HMo.out.mono ?_; rintro e w' ⟨rfl, q2, rfl⟩)
              go_ret
              exact ⟨rfl, below_drewN HW.out _⟩
            | false =>
              have h := HMk.out
              rw [ho] at h
              have HMo := hid h
              have HNo := hid (HN.out ho)
              clear h ho HMk HN
              go_wp2_with (go_at_call 16; refine HMo.out.mono ?_; rintro e w' ⟨rfl, q2, rfl⟩)
              go_roundw
              case rel => exact ⟨k' + 1, _, by omega, by go_num, rfl, HNo.out⟩
              case measure => simp [intOf]; omega
          · have HDk := hid (HD.out (by obtain rfl : k' = P.length := by omega
                                        exact hno) qd)
            have q28 : ∀ (w : World) (a : Option Addr) (n c n' c' : Nat), (binOp .neq 28 (.slice a n c) (.slice none n' c')).run Try.prog w = .ok (.bool (!a.isNone)) w := fun w a n c n' c' => run_neq_slice_nil_any w _ _ a n c n' c' Try.underlying28
            clear hno HM HD
            go_wp2_with (first
              | (go_at_call 12; refine HDk.out.mono ?_; rintro e w11 ⟨⟨c', rfl⟩, hb11⟩; have HB11 : Hid (Below w10.heap.size w10 w11) := (below_drewN (Below.refl _ _) qd).trans hb11; clear hb11)
              | (go_at_call 14; refine (HE.out _ _ HB11.out).mono ?_; rintro e w12 ⟨rfl, q3, rfl⟩))
            go_ret
            exact ⟨rfl, below_drewN (HW.out.trans (HB11.out.mono HW.out.size)) _⟩
end Go.Proofs.Qxb6600207a
