/-
  THE WALK of FnSplitCutsAtMarkerLines (seat b6600245a).
-/
import Derived.Test.Qxb6600245aArr
import Derived.Test.Qxb6600245aEndWalk
namespace Go.Proofs.Qxb6600245a.Cut
open Go.RowKit

set_option maxRecDepth 100000 in
theorem big (a : Option Addr) (n c : Nat) (w : World) (h : n ≤ maxLen) (hb : 65536 < n) :
    Calls Try.prog 4 #[.slice a n c] w fun e w' => e = .returned (.bool true) ∧ w' = w := by
  have hm : n ≤ 9223372036854775807 := h
  go_enter Try.func4, Try.ntmps4
  go_wp2_with fail
  refine (zz_cuts_any _ _ _ _ h).mono ?_
  rintro e w' ⟨⟨b, rfl⟩, rfl⟩
  cases b
  all_goals
    go_wp2
    go_ret
    exact ⟨rfl, rfl⟩

set_option maxHeartbeats 4000000 in
set_option maxRecDepth 100000 in
theorem small (a : Option Addr) (n c : Nat) (l : List UInt8) (w : World) (hn : n ≤ 65536) (h : RB w a n l) :
    Calls Try.prog 4 #[.slice a n c] w fun e w' => e = .returned (.bool true) ∧ Below w.heap.size w w' := by
  obtain ⟨i3, hi3, hz3, hs3, hb3⟩ := info_parts info3
  obtain ⟨i4, hi4, hz4, hs4, hb4⟩ := info_parts info4
  have HH : Hid (RB w a n l) := h
  have HL : Hid (l.length = n) := h.1
  have hd1 : decide ((65536 : Int) < (n : Int)) = false := by simp; omega
  clear h
  go_enter Try.func4, Try.ntmps4
  go_wp2_with fail
  refine (zz_cuts _ _ _ _ hn).mono ?_
  rintro e w' ⟨rfl, hw⟩
  have hw2 := hw.symm
  subst hw2
  clear hw
  go_wp2_with fail
  refine (clone_any a n c l _ hn HH.out).mono ?_
  rintro e w1 ⟨⟨a1, c1, rfl, hc1, hrb1⟩, hb1⟩
  have HB1 : Hid (Below w.heap.size w w1) := hb1
  have HR1 : Hid (RB w1 a1 n l) := hrb1
  clear hb1 hrb1
  go_wp2_with fail
  refine (zzsplit_any a1 n c1 l _ hc1 hn HR1.out).mono ?_
  rintro e w2 ⟨⟨v1, v2, rfl, hz⟩, hb2⟩
  have HB2 : Hid (Below w.heap.size w w2) := HB1.out.trans (hb2.mono HB1.out.size)
  have HR2 : Hid (RB w2 a1 n l) := HR1.out.kept hb2
  obtain ⟨T, U, m, rfl, rfl, hm, hcell⟩ := hz
  have HC : Hid (∀ i (h : i < (Plain.split l).length), (∃ tv, w2.cell? ⟨T, i, none⟩ = some tv ∧ Txt w2 tv ((Plain.split l)[i]).1) ∧ w2.cell? ⟨U, i, none⟩ = some (.int .i64 (((Plain.split l)[i]).2 : Int))) := hcell
  have HM : Hid ((Plain.split l).length = m) := hm
  clear hcell hb2 hm HR1 HB1
  obtain ⟨B, hB⟩ : ∃ B, w2.heap.size = B := ⟨_, rfl⟩
  go_wp2
  go_loopw [5, 6, 7, 8, 9, 10] (fun v1 v2 v3 v4 i j wr => ∃ (M : List Plain.Mk) (p no : Nat), p ≤ n ∧ i = .int .i64 p ∧ j = .int .i64 no ∧ no ≤ p + 1 ∧ M.length ≤ p ∧ Hid (Marks B wr v1 v2 v3 v4 M) ∧ Hid (Below B w2 wr) ∧ Hid (M ++ Plain.marks (Plain.lns (l.drop p)) p no = Plain.marked l)) (fun _ _ _ _ i _ _ => n - (intOf i).toNat)
  case atStart => exact ⟨[], 0, 1, Nat.zero_le _, rfl, rfl, by omega, by simp, Arr.start _ _, Below.refl _ _, rfl⟩
  case round =>
    obtain ⟨M, p, no, hp, rfl, rfl, hno, hMp, HMK, HB, HMS⟩ := hrel
    by_cases hlt : p < n
    · obtain ⟨b, off, rfl, hat2⟩ := HR2.out.pos (by omega)
      have HA : Hid (At wr b off l) := hat2.kept (by rw [hB]; exact HB.out)
      have hBw : B ≤ wr.heap.size := by have := HB.out.size; omega
      clear hat2
      have hne : l.drop p ≠ [] := by
        intro e
        have h1 := HL.out
        have := congrArg List.length e
        simp at this
        omega
      have HLN := Plain.lns_line (l.drop p) hne
      have hx1 := Plain.line_pos (l.drop p) hne
      have hx2 := Plain.line_len (l.drop p)
      rw [List.length_drop, HL.out] at hx2
      rw [List.drop_drop] at HLN
      obtain ⟨E, HE⟩ : ∃ E, Hid (p + (Plain.line (l.drop p)).length = E) := ⟨_, rfl⟩
      have hE1 : p < E := by have := HE.out; omega
      have hE2 : E ≤ n := by have := HE.out; omega
      have HLN2 : Hid (Plain.lns (l.drop p) = Plain.line (l.drop p) :: Plain.lns (l.drop E)) := by show _ = _; rw [HLN, HE.out]
      have HSG : Hid ((l.take E).drop p = Plain.line (l.drop p)) := by show _ = _; rw [← HE.out]; exact Plain.line_seg l p
      clear HLN hx1 hx2 hne
      go_upto_block 2 with fail
      go_cut [11] (fun y wx => (∃ e : Nat, y = .int .i64 e ∧ e ≤ n ∧ (e = n ∧ E = n ∨ e < n ∧ E = e + 1)) ∧ wx = wr)
      case first =>
        go_wp2_with fail
        go_loop [11] (fun i => ∃ e : Nat, e ≤ n ∧ i = .int .i64 e ∧ Hid (Scan l p e)) (fun i => n - (intOf i).toNat)
        case atStart => exact ⟨p, hp, rfl, rfl⟩
        case round =>
          obtain ⟨e, he, rfl, HSC⟩ := hrel
          by_cases hen : e < n
          · have hel : e < l.length := by have := HL.out; omega
            have k0 := HA.out e hel
            cases hq : ((l[e].toNat : Int) != 10) with
            | false =>
              have h10 : l[e] = 10 := byte_yes (n := 10) (by simpa [bne] using hq)
              have HE1 : Hid (E = e + 1) := scan_nl HSC.out HE.out hel h10
              clear h10
              go_wp2
              go_meet
              exact ⟨⟨e, rfl, by omega, .inr ⟨hen, HE1.out⟩⟩, rfl⟩
            | true =>
              have hn10 : l[e] ≠ 10 := byte_no (n := 10) (by omega) (by simpa [bne] using hq)
              have HS1 : Hid (Scan l p (e + 1)) := scan_on HSC.out hel hn10
              clear hn10
              go_wp2
              go_round
              case rel => exact ⟨e + 1, by omega, by go_num, HS1⟩
              case measure => simp [intOf]; omega
          · have HE1 : Hid (E = e) := scan_end HSC.out HE.out HL.out (by omega)
            go_wp2
            go_meet
            exact ⟨⟨e, rfl, he, .inl ⟨by omega, by have := HE1.out; omega⟩⟩, rfl⟩
      case rest =>
        obtain ⟨⟨e, rfl, hen, hee⟩, hwc⟩ := hcut
        have hwc2 := hwc.symm
        subst hwc2
        clear hwc
        have HEE : Hid (e = n ∧ E = n ∨ e < n ∧ E = e + 1) := hee
        clear hee
        go_upto_if 51 with fail
        go_cut [11] (fun y wx => y = .int .i64 E ∧ wx = wr)
        case first =>
          rcases HEE.out with ⟨h1, h2⟩ | ⟨h1, h2⟩
          · have H2 : Hid (E = e) := h2.trans h1.symm
            have h3 : ¬ e < n := by omega
            clear h1 h2
            go_wp2
            go_meet
            exact ⟨by rw [H2.out], rfl⟩
          · have H2 : Hid (E = e + 1) := h2
            clear h2
            go_wp2
            go_meet
            exact ⟨by rw [H2.out]; go_num, rfl⟩
        case rest =>
          obtain ⟨rfl, hwc⟩ := hcut
          have hwc2 := hwc.symm
          subst hwc2
          clear hwc HEE
          obtain ⟨l1, e1⟩ : ∃ l1, Hid (M.map (·.1) = l1) := ⟨_, rfl⟩
          obtain ⟨l2, e2⟩ : ∃ l2, Hid (M.map (·.2.1) = l2) := ⟨_, rfl⟩
          obtain ⟨l3, e3⟩ : ∃ l3, Hid (M.map (·.2.2.1) = l3) := ⟨_, rfl⟩
          obtain ⟨l4, e4⟩ : ∃ l4, Hid (M.map (·.2.2.2) = l4) := ⟨_, rfl⟩
          have HAR : Hid (Arr B wr u5 u6 u7 u8 l1 l2 l3 l4) := by
            have := HMK.out
            unfold Marks at this
            rw [e1.out, e2.out, e3.out, e4.out] at this
            exact this
          have hl1 : l1.length ≤ 65536 := by rw [← e1.out]; simp; omega
          have hl2 : l2.length ≤ 65536 := by rw [← e2.out]; simp; omega
          have hl3 : l3.length ≤ 65536 := by rw [← e3.out]; simp; omega
          have hl4 : l4.length ≤ 65536 := by rw [← e4.out]; simp; omega
          cases hm45 : Plain.isM 45 (Plain.line (l.drop p)) with
          | true =>
            have HM5 : Hid (Plain.isM 45 ((l.take E).drop p) = true) := by show _ = _; rw [HSG.out]; exact hm45
            have HMS2 : Hid ((M ++ [(p, E, no, true)]) ++ Plain.marks (Plain.lns (l.drop E)) E (no + 1) = Plain.marked l) := by
              show _ = _
              rw [← HMS.out, HLN2.out, Plain.marks_dash _ _ _ hm45, HE.out]; simp
            clear hm45
            go_wp2_with (first
                | (go_at_call 12; refine (markerLine_any 45 45 rfl b off n c1 p E l _ HL.out hn (by omega) hE2 HA.out).mono ?_; rintro e w' ⟨rfl, hw⟩; have hw2 := hw.symm; subst hw2; clear hw; rw [HM5.out])
                | (at_builtin; refine wpList_append_own_at _ rfl (.tmp 58) (.tmp 60) 28 rfl B 3 i3 (.int .i64 0) 1 8 Try.underlying28 hi3 hz3 hs3 hb3 rfl (by decide) u5 _ _ rfl (HAR.out.alloc _).r1 ⟨wr.heap.size, 0, none⟩ 1 1 [.int .i64 ((p : Nat) : Int)] rfl rfl (cell_one_new _ _ _) (one_val rfl) (by unfold maxLen; omega) (by omega) (base_alloc hBw _) ?_; intro y1 x1 ho hg _ hat; obtain ⟨HA1, HXx1, hsx1⟩ := HAR.out.step HB.out hBw ho hg hat; clear ho hg hat)
                | (at_builtin; refine wpList_append_own_at _ rfl (.tmp 62) (.tmp 64) 28 rfl B 3 i3 (.int .i64 0) 1 8 Try.underlying28 hi3 hz3 hs3 hb3 rfl (by decide) u6 _ _ rfl (HA1.out.alloc _).r1 ⟨x1.heap.size, 0, none⟩ 1 1 [.int .i64 ((E : Nat) : Int)] rfl rfl (cell_one_new _ _ _) (one_val rfl) (by unfold maxLen; omega) (by omega) (base_alloc hsx1 _) ?_; intro y2 x2 ho hg _ hat; obtain ⟨HA2, HXx2, hsx2⟩ := HA1.out.step HXx1.out hsx1 ho hg hat; clear ho hg hat)
                | (at_builtin; refine wpList_append_own_at _ rfl (.tmp 66) (.tmp 68) 28 rfl B 3 i3 (.int .i64 0) 1 8 Try.underlying28 hi3 hz3 hs3 hb3 rfl (by decide) u7 _ _ rfl (HA2.out.alloc _).r1 ⟨x2.heap.size, 0, none⟩ 1 1 [.int .i64 ((no : Nat) : Int)] rfl rfl (cell_one_new _ _ _) (one_val rfl) (by unfold maxLen; omega) (by omega) (base_alloc hsx2 _) ?_; intro y3 x3 ho hg _ hat; obtain ⟨HA3, HXx3, hsx3⟩ := HA2.out.step HXx2.out hsx2 ho hg hat; clear ho hg hat)
                | (at_builtin; refine wpList_append_own _ rfl (.tmp 70) (.tmp 71) 31 rfl B 4 i4 (.bool false) 1 1 Try.underlying31 hi4 hz4 hs4 hb4 rfl (by decide) u8 _ _ rfl (HA3.out.alloc _).r4 ⟨x3.heap.size, 0, none⟩ 1 1 [.bool true] rfl rfl (cell_one_new _ _ _) (one_val rfl) (by unfold maxLen; omega) (by omega) (base_alloc hsx3 _) ?_; intro y4 x4 ho hg _; obtain ⟨HA4, HXx4⟩ := HA3.out.stepB HXx3.out hsx3 ho hg; clear ho hg))
            have HMK2 : Hid (Marks B x4 y1 y2 y3 y4 (M ++ [(p, E, no, true)])) := by
              show Arr _ _ _ _ _ _ _ _ _ _
              have := HA4.out
              rw [← e1.out, ← e2.out, ← e3.out, ← e4.out] at this
              simpa using this
            go_roundw
            case rel => exact ⟨M ++ [(p, E, no, true)], E, no + 1, hE2, rfl, by go_num, by omega, by simp; omega, HMK2, HXx4, HMS2⟩
            case measure => simp [intOf]; omega
          | false =>
            have HM5 : Hid (Plain.isM 45 ((l.take E).drop p) = false) := by show _ = _; rw [HSG.out]; exact hm45
            go_wp2_with fail
            refine (markerLine_any 45 45 rfl b off n c1 p E l _ HL.out hn (by omega) hE2 HA.out).mono ?_
            rintro e w' ⟨rfl, hw⟩
            have hw2 := hw.symm
            subst hw2
            clear hw
            rw [HM5.out]
            cases hm46 : Plain.isM 46 (Plain.line (l.drop p)) with
            | true =>
              have HM6 : Hid (Plain.isM 46 ((l.take E).drop p) = true) := by show _ = _; rw [HSG.out]; exact hm46
              have HMS2 : Hid ((M ++ [(p, E, no, false)]) ++ Plain.marks (Plain.lns (l.drop E)) E (no + 1) = Plain.marked l) := by
                show _ = _
                rw [← HMS.out, HLN2.out, Plain.marks_dot _ _ _ hm45 hm46, HE.out]; simp
              clear hm45 hm46
              go_wp2_with (first
                | (go_at_call 12; refine (markerLine_any 46 46 rfl b off n c1 p E l _ HL.out hn (by omega) hE2 HA.out).mono ?_; rintro e w' ⟨rfl, hw⟩; have hw2 := hw.symm; subst hw2; clear hw; rw [HM6.out])
                | (at_builtin; refine wpList_append_own_at _ rfl (.tmp 77) (.tmp 79) 28 rfl B 3 i3 (.int .i64 0) 1 8 Try.underlying28 hi3 hz3 hs3 hb3 rfl (by decide) u5 _ _ rfl (HAR.out.alloc _).r1 ⟨wr.heap.size, 0, none⟩ 1 1 [.int .i64 ((p : Nat) : Int)] rfl rfl (cell_one_new _ _ _) (one_val rfl) (by unfold maxLen; omega) (by omega) (base_alloc hBw _) ?_; intro y1 x1 ho hg _ hat; obtain ⟨HA1, HXx1, hsx1⟩ := HAR.out.step HB.out hBw ho hg hat; clear ho hg hat)
                | (at_builtin; refine wpList_append_own_at _ rfl (.tmp 81) (.tmp 83) 28 rfl B 3 i3 (.int .i64 0) 1 8 Try.underlying28 hi3 hz3 hs3 hb3 rfl (by decide) u6 _ _ rfl (HA1.out.alloc _).r1 ⟨x1.heap.size, 0, none⟩ 1 1 [.int .i64 ((E : Nat) : Int)] rfl rfl (cell_one_new _ _ _) (one_val rfl) (by unfold maxLen; omega) (by omega) (base_alloc hsx1 _) ?_; intro y2 x2 ho hg _ hat; obtain ⟨HA2, HXx2, hsx2⟩ := HA1.out.step HXx1.out hsx1 ho hg hat; clear ho hg hat)
                | (at_builtin; refine wpList_append_own_at _ rfl (.tmp 85) (.tmp 87) 28 rfl B 3 i3 (.int .i64 0) 1 8 Try.underlying28 hi3 hz3 hs3 hb3 rfl (by decide) u7 _ _ rfl (HA2.out.alloc _).r1 ⟨x2.heap.size, 0, none⟩ 1 1 [.int .i64 ((no : Nat) : Int)] rfl rfl (cell_one_new _ _ _) (one_val rfl) (by unfold maxLen; omega) (by omega) (base_alloc hsx2 _) ?_; intro y3 x3 ho hg _ hat; obtain ⟨HA3, HXx3, hsx3⟩ := HA2.out.step HXx2.out hsx2 ho hg hat; clear ho hg hat)
                | (at_builtin; refine wpList_append_own _ rfl (.tmp 89) (.tmp 90) 31 rfl B 4 i4 (.bool false) 1 1 Try.underlying31 hi4 hz4 hs4 hb4 rfl (by decide) u8 _ _ rfl (HA3.out.alloc _).r4 ⟨x3.heap.size, 0, none⟩ 1 1 [.bool false] rfl rfl (cell_one_new _ _ _) (one_val rfl) (by unfold maxLen; omega) (by omega) (base_alloc hsx3 _) ?_; intro y4 x4 ho hg _; obtain ⟨HA4, HXx4⟩ := HA3.out.stepB HXx3.out hsx3 ho hg; clear ho hg))
              have HMK2 : Hid (Marks B x4 y1 y2 y3 y4 (M ++ [(p, E, no, false)])) := by
                show Arr _ _ _ _ _ _ _ _ _ _
                have := HA4.out
                rw [← e1.out, ← e2.out, ← e3.out, ← e4.out] at this
                simpa using this
              go_roundw
              case rel => exact ⟨M ++ [(p, E, no, false)], E, no + 1, hE2, rfl, by go_num, by omega, by simp; omega, HMK2, HXx4, HMS2⟩
              case measure => simp [intOf]; omega
            | false =>
              have HM6 : Hid (Plain.isM 46 ((l.take E).drop p) = false) := by show _ = _; rw [HSG.out]; exact hm46
              have HMS2 : Hid (M ++ Plain.marks (Plain.lns (l.drop E)) E (no + 1) = Plain.marked l) := by
                show _ = _
                rw [← HMS.out, HLN2.out, Plain.marks_plain _ _ _ hm45 hm46, HE.out]
              clear hm45 hm46
              go_wp2_with (go_at_call 12; refine (markerLine_any 46 46 rfl b off n c1 p E l _ HL.out hn (by omega) hE2 HA.out).mono ?_; rintro e w' ⟨rfl, hw⟩; have hw2 := hw.symm; subst hw2; clear hw; rw [HM6.out])
              go_roundw
              case rel => exact ⟨M, E, no + 1, hE2, rfl, by go_num, by omega, by omega, HMK, HB, HMS2⟩
              case measure => simp [intOf]; omega
    · have HMF : Hid (M = Plain.marked l) := by
        show _ = _
        rw [← HMS.out, List.drop_eq_nil_of_le (by have := HL.out; omega)]
        simp [Plain.lns, Plain.marks]
      have hcu := Plain.cuts l
      rw [← HMF.out, HL.out] at hcu
      have HCU : Hid (Plain.split l = (l.take (Plain.nextOf n M), 1) :: Plain.segs l M) := hcu
      have hok := Plain.marked_ok l
      rw [← HMF.out, HL.out] at hok
      have HOK : Hid (Plain.MkOk n 0 M) := hok
      obtain ⟨s1, s2, s3, s4, d1, d2, d3, d4, rfl, rfl, rfl, rfl, hrd⟩ := HMK.out.read
      obtain ⟨K, HK⟩ : ∃ K, Hid (M.length = K) := ⟨_, rfl⟩
      have hmK : m = K + 1 := by
        have h1 := HM.out
        rw [HCU.out, List.length_cons, Plain.segs_len, HK.out] at h1
        omega
      subst hmK
      have hK1 : K ≤ 65536 := by have h1 := HK.out; omega
      rw [HK.out] at hMp ⊢
      have hbw : Below w2.heap.size w2 wr := by rw [hB]; exact HB.out
      have HRW : Hid (RB wr a1 n l) := HR2.out.kept hbw
      have hN0 : Hid (Plain.nextOf n M ≤ n) := by
        show _ ≤ _
        have := hok
        cases M with
        | nil => exact Nat.le_refl _
        | cons q r => exact Nat.le_trans this.2.2.1 this.2.2.2.2.1
      have HRD : Hid (∀ i (hi : i < M.length), ∃ g1 g2 g3 g4, s1 = some ⟨g1, 0, none⟩ ∧ s2 = some ⟨g2, 0, none⟩ ∧ s3 = some ⟨g3, 0, none⟩ ∧ s4 = some ⟨g4, 0, none⟩ ∧
        wr.cell? ⟨g1, i, none⟩ = some (.int .i64 (M[i].1 : Int)) ∧ wr.cell? ⟨g2, i, none⟩ = some (.int .i64 (M[i].2.1 : Int)) ∧ wr.cell? ⟨g3, i, none⟩ = some (.int .i64 (M[i].2.2.1 : Int)) ∧ wr.cell? ⟨g4, i, none⟩ = some (.bool M[i].2.2.2)) := hrd
      have HCW : Hid (∀ i (h : i < (Plain.split l).length), (∃ tv, wr.cell? ⟨T, i, none⟩ = some tv ∧ Txt wr tv ((Plain.split l)[i]).1) ∧ wr.cell? ⟨U, i, none⟩ = some (.int .i64 (((Plain.split l)[i]).2 : Int))) := by
        intro i hi
        obtain ⟨⟨tv, q1, q2⟩, q3⟩ := HC.out i hi
        exact ⟨⟨tv, cell_later hbw q1, q2.kept hbw⟩, cell_later hbw q3⟩
      clear hrd hcu hok hbw HMS HC HMK HR2
      have hmz : ((K : Int) + 1 != (K : Int) + 1) = false := by simp
      go_upto_if 113 with fail
      go_cut [12] (fun y wx => y = .int .i64 ((Plain.nextOf n M : Nat) : Int) ∧ wx = wr)
      case first =>
        by_cases hK0 : 0 < K
        · obtain ⟨g1, g2, g3, g4, rfl, rfl, rfl, rfl, q1, q2, q3, q4⟩ := HRD.out 0 (by have := HK.out; omega)
          have hnx : Hid (Plain.nextOf n M = (M[0]'(by have := HK.out; omega)).1) := by
            show _ = _
            have h1 := HK.out
            cases M with
            | nil => simp at h1; omega
            | cons q r => rfl
          generalize (M[0]'(by have := HK.out; omega)) = q at *
          go_wp2
          go_meet
          exact ⟨by rw [hnx.out], rfl⟩
        · have hnx : Hid (Plain.nextOf n M = n) := by
            show _ = _
            have h1 := HK.out
            cases M with
            | nil => rfl
            | cons q r => simp at h1; omega
          go_wp2
          go_meet
          exact ⟨by rw [hnx.out], rfl⟩
      case rest =>
        obtain ⟨rfl, hwc⟩ := hcut
        have hwc2 := hwc.symm
        subst hwc2
        clear hwc
        obtain ⟨⟨tv, t0, tx0⟩, u0⟩ := HCW.out 0 (by rw [HCU.out]; simp)
        have HTX0 : Hid (Txt wr tv (l.take (Plain.nextOf n M))) := by
          have := tx0
          simp only [HCU.out, List.getElem_cons_zero] at this
          exact this
        replace u0 : wr.cell? ⟨U, 0, none⟩ = some (.int .i64 1) := by
          have := u0
          simp only [HCU.out, List.getElem_cons_zero] at this
          exact this
        clear tx0
        generalize hNN : Plain.nextOf n M = N0 at *
        have HNN : Hid (Plain.nextOf n M = N0) := hNN
        have hN0c : N0 ≤ c1 := by have := hN0.out; omega
        have hN0n : N0 ≤ n := hN0.out
        clear hNN hN0
        obtain ⟨ta, tn, tc, rfl, htc, hrb⟩ := HTX0.out
        have HRB0 : Hid (RB wr ta tn (l.take N0)) := hrb
        have HRBd : Hid (RB wr a1 N0 (l.take N0)) := HRW.out.take N0 hN0n
        have htn : tn ≤ 1048576 := by have h1 := HRB0.out.1; have h2 := HRBd.out.1; omega
        clear hrb HTX0
        go_wp2
        go_quiet ((go_at_call 13; exact quiet_of_draws (eq_any _ _ _ _ _ _ (l.take N0) _ htn HRB0.out HRBd.out)))
        go_wp2
        generalize hwE : wr.drewN nq = wE
        have HRW2 : Hid (RB wE a1 n l) := by rw [← hwE]; exact HRW.out
        have HBE : Hid (Below B w2 wE) := by rw [← hwE]; exact below_drewN HB.out nq
        have HRD2 : Hid (∀ i (hi : i < M.length), ∃ g1 g2 g3 g4, s1 = some ⟨g1, 0, none⟩ ∧ s2 = some ⟨g2, 0, none⟩ ∧ s3 = some ⟨g3, 0, none⟩ ∧ s4 = some ⟨g4, 0, none⟩ ∧
          wE.cell? ⟨g1, i, none⟩ = some (.int .i64 (M[i].1 : Int)) ∧ wE.cell? ⟨g2, i, none⟩ = some (.int .i64 (M[i].2.1 : Int)) ∧ wE.cell? ⟨g3, i, none⟩ = some (.int .i64 (M[i].2.2.1 : Int)) ∧ wE.cell? ⟨g4, i, none⟩ = some (.bool M[i].2.2.2)) := by rw [← hwE]; exact HRD.out
        have HCW2 : Hid (∀ i (h : i < (Plain.split l).length), (∃ tv, wE.cell? ⟨T, i, none⟩ = some tv ∧ Txt wE tv ((Plain.split l)[i]).1) ∧ wE.cell? ⟨U, i, none⟩ = some (.int .i64 (((Plain.split l)[i]).2 : Int))) := by rw [← hwE]; exact HCW.out
        clear hwE HRW HB HRD HCW t0 u0 HRB0 HRBd HNN htn htc
        go_loopw [13] (fun i wx => ∃ k : Nat, k ≤ K ∧ i = .int .i64 k ∧ Hid (∃ q, wx = wE.drewN q)) (fun i _ => K - (intOf i).toNat)
        case atStart => exact ⟨0, Nat.zero_le _, rfl, 0, rfl⟩
        case round =>
          rename_i wx
          obtain ⟨k, hk, rfl, HQ⟩ := hrel
          by_cases hkK : k < K
          · have hkM : k < M.length := by have := HK.out; omega
            obtain ⟨nq, hnq⟩ := HQ.out
            subst hnq
            clear HQ
            obtain ⟨g1, g2, g3, g4, rfl, rfl, rfl, rfl, q1, q2, q3, q4⟩ := HRD2.out k hkM
            have hsg := Plain.segs_at l M k hkM
            have hat := Plain.ok_at n M 0 k hkM HOK.out
            rw [HL.out] at hsg
            have hsl : k + 1 < (Plain.split l).length := by rw [HCU.out, List.length_cons, Plain.segs_len]; omega
            have hcs : (Plain.split l)[k + 1] = ((l.take (Plain.nextOf n (M.drop (k + 1)))).drop (Plain.fromOf M[k]), Plain.wantOf M[k]) := by
              simp only [HCU.out, List.getElem_cons_succ]
              exact hsg
            obtain ⟨⟨tv, t1, tx1⟩, u1⟩ := HCW2.out (k + 1) hsl
            rw [hcs] at tx1 u1
            have hnx : Hid (k + 1 < K ∧ wE.cell? ⟨g1, k + 1, none⟩ = some (.int .i64 ((Plain.nextOf n (M.drop (k + 1)) : Nat) : Int)) ∨ ¬ k + 1 < K ∧ Plain.nextOf n (M.drop (k + 1)) = n) := by
              by_cases h1 : k + 1 < K
              · have h2 : k + 1 < M.length := by have := HK.out; omega
                obtain ⟨g1', _, _, _, e1, _, _, _, z1, _⟩ := HRD2.out (k + 1) h2
                have e2 : g1 = g1' := by simpa using e1
                subst e2
                refine .inl ⟨h1, ?_⟩
                rw [z1, List.drop_eq_getElem_cons h2]
                rfl
              · refine .inr ⟨h1, ?_⟩
                rw [List.drop_eq_nil_of_le (by have := HK.out; omega)]
                rfl
            have HTX : Hid (Txt wE tv ((l.take (Plain.nextOf n (M.drop (k + 1)))).drop (Plain.fromOf M[k]))) := tx1
            have hkz : (k : Int) < (K : Int) := by omega
            have hwn : Hid (Plain.wantOf M[k] ≤ 131072 ∧ (M[k]).2.2.1 ≤ 131072) := by
              have hmk : M[k] ∈ Plain.marked l := by rw [← HMF.out]; exact List.getElem_mem hkM
              have h1 := Plain.marks_no (Plain.lns l) 0 1 _ hmk
              have h2 := Plain.lns_len l
              have h3 := HL.out
              refine ⟨?_, by omega⟩
              unfold Plain.wantOf
              split <;> omega
            clear hsg hcs hsl tx1
            generalize hNX : Plain.nextOf n (M.drop (k + 1)) = NX at *
            clear hNX
            generalize hMk : M[k] = mk at *
            clear hMk
            obtain ⟨ms, me, mn, md⟩ := mk
            simp only at q1 q2 q3 q4 hat
            have hwn2 : mn ≤ 131072 := hwn.out.2
            go_upto_if 143 with fail
            go_cut [14] (fun y wx => y = .int .i64 (NX : Int) ∧ Hid (wx = wE.drewN nq))
            case first =>
              rcases hnx.out with ⟨h1, z1⟩ | ⟨h1, z1⟩
              · have h1z : (k : Int) + 1 < (K : Int) := by omega
                go_wp2
                go_meet
                exact ⟨rfl, rfl⟩
              · have z2 : Hid (NX = n) := z1
                clear z1
                go_wp2
                go_meet
                exact ⟨by rw [z2.out], rfl⟩
            case rest =>
              obtain ⟨rfl, hwc⟩ := hcut
              have hwc2 := hwc.out.symm
              subst hwc2
              clear hwc hnx
              go_upto_if 161 with fail
              go_cut [15, 16] (fun y z wx => y = .int .i64 ((Plain.fromOf (ms, me, mn, md) : Nat) : Int) ∧ z = .int .i64 ((Plain.wantOf (ms, me, mn, md) : Nat) : Int) ∧ Hid (wx = wE.drewN nq))
              case first =>
                cases md with
                | true =>
                  go_wp2
                  go_meet
                  exact ⟨by simp [Plain.fromOf], by simp [Plain.wantOf], rfl⟩
                | false =>
                  go_wp2
                  go_meet
                  exact ⟨by simp [Plain.fromOf], by simp [Plain.wantOf], rfl⟩
              case rest =>
                obtain ⟨rfl, rfl, hwc⟩ := hcut
                have hwc2 := hwc.out.symm
                subst hwc2
                clear hwc q1 q2 q3 q4
                go_wp2
                obtain ⟨ta2, tn2, tc2, rfl, htc2, hrb2⟩ := HTX.out
                obtain ⟨g5, g6, g7, g8, g9, g10⟩ := hat
                generalize hF : Plain.fromOf (ms, me, mn, md) = F at *
                clear hF
                have hF1 : F ≤ NX := Nat.le_trans g8 g9
                have hseg := HRW2.out.seg F NX hF1 g10
                generalize hwz : wE.drewN nq = wz
                have HWZ : Hid (wE.drewN nq = wz) := hwz
                have HRBt : Hid (RB wz ta2 tn2 ((l.take NX).drop F)) := by rw [← hwz]; exact hrb2
                have HSG1 : Hid (F = NX → ∀ a', RB wz a' (NX - F) ((l.take NX).drop F)) := by rw [← hwz]; exact hseg.1
                have HSG2 : Hid (F < NX → ∃ b off, a1 = some ⟨b, off, none⟩ ∧ RB wz (some ⟨b, off + F, none⟩) (NX - F) ((l.take NX).drop F)) := by rw [← hwz]; exact hseg.2
                have t2 : wz.cell? ⟨T, k + 1, none⟩ = some (.slice ta2 tn2 tc2) := by rw [← hwz]; exact t1
                have htn2 : tn2 ≤ 1048576 := by
                  have h1 := HRBt.out.1
                  have h2 := HL.out
                  simp at h1
                  omega
                have hk1 : (k : Int) + 1 < (K : Int) + 1 := by omega
                have hNXc : NX ≤ c1 := by omega
                have hwr : IntKind.i64.wrap ((k : Int) + 1) = (k : Int) + 1 := by rw [IntKind.wrap_i64]; omega
                clear hwz hrb2 hseg t1 u1 HTX g5 g6 g7 g8 g9
                obtain ⟨b, off, rfl, _⟩ := HRW2.out.pos (by omega)
                have hkb : (0 : Int) ≤ (k : Int) + 1 := by omega
                have hkb2 : (k : Int) + 1 < ((K + 1 : Nat) : Int) := by omega
                rcases Nat.lt_or_ge F NX with hlt1 | hge1
                · obtain ⟨b', off', e', hrbd⟩ := HSG2.out hlt1
                  have HRBd : Hid (RB wz (some ⟨b, off + F, none⟩) (NX - F) ((l.take NX).drop F)) := by cases e'; exact hrbd
                  clear e'
                  have hcF : ¬ c1 = F := by omega
                  clear hrbd HSG1 HSG2
                  clear b' off'
                  go_quiet ((go_at_call 13; exact quiet_of_draws (eq_any _ _ _ _ _ _ ((l.take NX).drop F) _ htn2 HRBt.out HRBd.out)))
                  go_wp2
                  go_roundw
                  case rel => exact ⟨k + 1, by omega, by go_num, by show ∃ q, _; exact ⟨_, by rw [← HWZ.out, World.drewN_drewN]⟩⟩
                  case measure => simp [intOf]; omega
                · have HRBd : Hid (∀ a', RB wz a' 0 ((l.take NX).drop F)) := by
                    have h1 := HSG1.out (by omega)
                    rw [show NX - F = 0 by omega] at h1
                    exact h1
                  have hFN : F = NX := by omega
                  subst hFN
                  clear HSG1 HSG2 hge1 hF1
                  by_cases hcF : c1 = F
                  · subst hcF
                    go_quiet ((go_at_call 13; exact quiet_of_draws (eq_any _ _ _ _ _ _ _ _ htn2 HRBt.out (HRBd.out _))))
                    go_wp2
                    go_roundw
                    case rel => exact ⟨k + 1, by omega, by go_num, by show ∃ q, _; exact ⟨_, by rw [← HWZ.out, World.drewN_drewN]⟩⟩
                    case measure => simp [intOf]; omega
                  · go_quiet ((go_at_call 13; exact quiet_of_draws (eq_any _ _ _ _ _ _ _ _ htn2 HRBt.out (HRBd.out _))))
                    go_wp2
                    go_roundw
                    case rel => exact ⟨k + 1, by omega, by go_num, by show ∃ q, _; exact ⟨_, by rw [← HWZ.out, World.drewN_drewN]⟩⟩
                    case measure => simp [intOf]; omega
          · obtain ⟨q, hq⟩ := HQ.out
            have HF : Hid (Below w.heap.size w (wE.drewN q)) := HB2.out.trans ((below_drewN HBE.out q).mono (by rw [← hB]; exact HB2.out.size))
            go_wp2
            go_ret
            exact ⟨rfl, hq ▸ HF.out⟩

theorem walk (a : Option Addr) (n c : Nat) (l : List UInt8) (w : World) (hm : n ≤ maxLen) (h : RB w a n l) :
    Calls Try.prog 4 #[.slice a n c] w fun e w' => e = .returned (.bool true) ∧ Below w.heap.size w w' := by
  by_cases hn : n ≤ 65536
  · exact small a n c l w hn h
  · exact (big a n c w hm (by omega)).mono fun e w' ⟨he, hw⟩ => ⟨he, hw ▸ Below.refl _ _⟩

end Go.Proofs.Qxb6600245a.Cut
