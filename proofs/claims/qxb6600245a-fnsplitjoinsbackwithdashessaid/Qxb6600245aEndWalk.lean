/-
  THE WALK of zzHasEndMarkerLine (seat b6600245a).
-/
import Derived.Test.Qxb6600245aLawParts
import Derived.Test.Qxb6600245aCuts
import Derived.Deep.CutBlock
import Derived.Deep.DeepCutAuto
namespace Go.Proofs.Qxb6600245a
open Go.RowKit

theorem hasEnd_empty (a : Option Addr) (c : Nat) (w : World) :
    Calls Try.prog 15 #[.slice a 0 c] w fun e w' => e = .returned (.bool false) ∧ w' = w := by
  go_enter Try.func15, Try.ntmps15
  go_wp2
  refine wp_loop_rounds 1 ?_
  rw [rounds_succ]
  go_wp2
  go_ret
  exact ⟨rfl, rfl⟩

/-- What the scan for the line's end has seen. -/
def Scan (l : List UInt8) (p e : Nat) : Prop := p + (Plain.line (l.drop p)).length = e + (Plain.line (l.drop e)).length

theorem scan_end {l : List UInt8} {p e E n : Nat} (h : Scan l p e) (hE : p + (Plain.line (l.drop p)).length = E) (hl : l.length = n) (he : n ≤ e) : E = e := by
  unfold Scan at h
  rw [hE, List.drop_eq_nil_of_le (by omega)] at h
  simpa [Plain.line] using h
theorem scan_nl {l : List UInt8} {p e E : Nat} (h : Scan l p e) (hE : p + (Plain.line (l.drop p)).length = E) (he : e < l.length) (hc : l[e] = 10) : E = e + 1 := by
  unfold Scan at h
  rw [hE, Plain.line_at l e he, if_pos hc] at h
  exact h
theorem scan_on {l : List UInt8} {p e : Nat} (h : Scan l p e) (he : e < l.length) (hc : l[e] ≠ 10) : Scan l p (e + 1) := by
  unfold Scan at h ⊢
  rw [h, Plain.line_at l e he, if_neg hc]
  omega
theorem scan_le {l : List UInt8} {p e E : Nat} (h : Scan l p e) (hE : p + (Plain.line (l.drop p)).length = E) : e ≤ E := by
  unfold Scan at h
  omega

set_option maxHeartbeats 1000000 in
theorem hasEnd_some (b off n c : Nat) (l : List UInt8) (w : World) (hl : l.length = n) (hn : n ≤ 65536) (h : At w b off l) :
    Calls Try.prog 15 #[.slice (some ⟨b, off, none⟩) n c] w fun e w' => e = .returned (.bool ((Plain.lns l).any (Plain.isM 46))) ∧ w' = w := by
  have HA : Hid (At w b off l) := h
  have HL : Hid (l.length = n) := hl
  clear h hl
  go_enter Try.func15, Try.ntmps15
  go_wp2
  go_loop [3] (fun i => ∃ p : Nat, p ≤ n ∧ i = .int .i64 p ∧ Hid ((Plain.lns l).any (Plain.isM 46) = (Plain.lns (l.drop p)).any (Plain.isM 46))) (fun i => n - (intOf i).toNat)
  case atStart => exact ⟨0, Nat.zero_le _, rfl, rfl⟩
  case round =>
    obtain ⟨p, hp, rfl, HP⟩ := hrel
    by_cases hlt : p < n
    · have hne : l.drop p ≠ [] := by
        intro e
        have h1 := HL.out
        have := congrArg List.length e
        simp at this
        omega
      have HLN := Plain.lns_line (l.drop p) hne
      have hx1 := Plain.line_pos (l.drop p) hne
      have hx2 := Plain.line_len (l.drop p)
      rw [List.length_drop, HL.out] at hx2
      rw [List.drop_drop] at HLN
      obtain ⟨E, HE⟩ : ∃ E, Hid (p + (Plain.line (l.drop p)).length = E) := ⟨_, rfl⟩
      have hE1 : p < E := by have := HE.out; omega
      have hE2 : E ≤ n := by have := HE.out; omega
      have HLN2 : Hid (Plain.lns (l.drop p) = Plain.line (l.drop p) :: Plain.lns (l.drop E)) := by show _ = _; rw [HLN, HE.out]
      have HSG : Hid ((l.take E).drop p = Plain.line (l.drop p)) := by show _ = _; rw [← HE.out]; exact Plain.line_seg l p
      clear HLN hx1 hx2 hne
      go_upto_block 2 with fail
      go_cut [4] (fun y wx => (∃ e : Nat, y = .int .i64 e ∧ e ≤ n ∧ (e = n ∧ E = n ∨ e < n ∧ E = e + 1)) ∧ wx = w)
      case first =>
        go_wp2_with fail
        go_loop [4] (fun i => ∃ e : Nat, e ≤ n ∧ i = .int .i64 e ∧ Hid (Scan l p e)) (fun i => n - (intOf i).toNat)
        case atStart => exact ⟨p, hp, rfl, rfl⟩
        case round =>
          obtain ⟨e, he, rfl, HSC⟩ := hrel
          by_cases hen : e < n
          · have hel : e < l.length := by have := HL.out; omega
            have k0 := HA.out e hel
            cases hq : ((l[e].toNat : Int) != 10) with
            | false =>
              have h10 : l[e] = 10 := byte_yes (n := 10) (by simpa [bne] using hq)
              have HE1 : Hid (E = e + 1) := scan_nl HSC.out HE.out hel h10
              clear h10
              go_wp2
              go_meet
              exact ⟨⟨e, rfl, by omega, .inr ⟨hen, HE1.out⟩⟩, rfl⟩
            | true =>
              have hn10 : l[e] ≠ 10 := byte_no (n := 10) (by omega) (by simpa [bne] using hq)
              have HS1 : Hid (Scan l p (e + 1)) := scan_on HSC.out hel hn10
              clear hn10
              go_wp2
              go_round
              case rel => exact ⟨e + 1, by omega, by go_num, HS1⟩
              case measure => simp [intOf]; omega
          · have HE1 : Hid (E = e) := scan_end HSC.out HE.out HL.out (by omega)
            go_wp2
            go_meet
            exact ⟨⟨e, rfl, he, .inl ⟨by omega, by have := HE1.out; omega⟩⟩, rfl⟩
      case rest =>
        obtain ⟨⟨e, rfl, hen, hee⟩, hwc⟩ := hcut
        have hwc2 := hwc.symm
        subst hwc2
        clear hwc
        have HEE : Hid (e = n ∧ E = n ∨ e < n ∧ E = e + 1) := hee
        clear hee
        go_upto_if 26 with fail
        go_cut [4] (fun y wx => y = .int .i64 E ∧ wx = w)
        case first =>
          rcases HEE.out with ⟨h1, h2⟩ | ⟨h1, h2⟩
          · have H2 : Hid (E = e) := h2.trans h1.symm
            have h3 : ¬ e < n := by omega
            clear h1 h2
            go_wp2
            go_meet
            exact ⟨by rw [H2.out], rfl⟩
          · have H2 : Hid (E = e + 1) := h2
            clear h2
            go_wp2
            go_meet
            exact ⟨by rw [H2.out]; go_num, rfl⟩
        case rest =>
          obtain ⟨rfl, hwc⟩ := hcut
          have hwc2 := hwc.symm
          subst hwc2
          clear hwc HEE
          cases hm : Plain.isM 46 (Plain.line (l.drop p)) with
          | true =>
            have HM : Hid (Plain.isM 46 ((l.take E).drop p) = true) := by show _ = _; rw [HSG.out]; exact hm
            have HF : Hid ((Plain.lns l).any (Plain.isM 46) = true) := by show _ = _; rw [HP.out, HLN2.out]; simp [hm]
            clear hm
            go_wp2_with (go_at_call 12; refine (markerLine_any 46 46 rfl b off n c p E l _ HL.out hn (by omega) hE2 HA.out).mono ?_; rintro e w' ⟨rfl, hw⟩; have hw2 := hw.symm; subst hw2; clear hw; rw [HM.out])
            go_ret
            exact ⟨by rw [HF.out]; rfl, rfl⟩
          | false =>
            have HM : Hid (Plain.isM 46 ((l.take E).drop p) = false) := by show _ = _; rw [HSG.out]; exact hm
            have HP2 : Hid ((Plain.lns l).any (Plain.isM 46) = (Plain.lns (l.drop E)).any (Plain.isM 46)) := by show _ = _; rw [HP.out, HLN2.out]; simp [hm]
            clear hm
            go_wp2_with (go_at_call 12; refine (markerLine_any 46 46 rfl b off n c p E l _ HL.out hn (by omega) hE2 HA.out).mono ?_; rintro e w' ⟨rfl, hw⟩; have hw2 := hw.symm; subst hw2; clear hw; rw [HM.out])
            go_round
            case rel => exact ⟨E, hE2, rfl, HP2⟩
            case measure => simp [intOf]; omega
    · have hpe : p = n := by omega
      have HF : Hid ((Plain.lns l).any (Plain.isM 46) = false) := by
        show _ = _
        rw [HP.out, List.drop_eq_nil_of_le (by have := HL.out; omega)]
        rfl
      clear HP
      go_wp2
      go_ret
      exact ⟨by rw [HF.out]; rfl, rfl⟩

theorem hasEnd_any (a : Option Addr) (n c : Nat) (l : List UInt8) (w : World) (hn : n ≤ 65536) (h : RB w a n l) :
    Calls Try.prog 15 #[.slice a n c] w fun e w' => e = .returned (.bool ((Plain.lns l).any (Plain.isM 46))) ∧ w' = w := by
  by_cases h0 : n = 0
  · subst h0
    have hl : l = [] := List.eq_nil_of_length_eq_zero h.1
    subst hl
    exact hasEnd_empty a c w
  · obtain ⟨b, off, rfl, hat⟩ := h.pos (by omega)
    exact hasEnd_some b off n c l w h.1 hn hat

end Go.Proofs.Qxb6600245a
