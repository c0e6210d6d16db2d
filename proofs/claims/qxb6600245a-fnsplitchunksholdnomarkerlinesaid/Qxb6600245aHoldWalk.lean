/-
  THE WALK of FnSplitChunksHoldNoMarkerLine (seat b6600245a).
-/
import Derived.Test.Qxb6600245aLawParts
import Derived.Deep.DeepCutAuto
namespace Go.Proofs.Qxb6600245a.Hold
open Go.RowKit

theorem big (a : Option Addr) (n c : Nat) (w : World) (h : n ≤ maxLen) (hb : 65536 < n) :
    Calls Try.prog 6 #[.slice a n c] w fun e w' => e = .returned (.bool true) ∧ w' = w := by
  have hm : n ≤ 9223372036854775807 := h
  go_enter Try.func6, Try.ntmps6
  go_wp2_with fail
  refine (zz_holds_any _ _ _ _ h).mono ?_
  rintro e w' ⟨⟨b, rfl⟩, rfl⟩
  cases b
  all_goals
    go_wp2
    go_ret
    exact ⟨rfl, rfl⟩

set_option maxHeartbeats 1000000 in
set_option maxRecDepth 100000 in
theorem small (a : Option Addr) (n c : Nat) (l : List UInt8) (w : World) (hn : n ≤ 65536) (h : RB w a n l) :
    Calls Try.prog 6 #[.slice a n c] w fun e w' => e = .returned (.bool true) ∧ Below w.heap.size w w' := by
  have HH : Hid (RB w a n l) := h
  have hsz := Plain.split_size l
  rw [h.1] at hsz
  have hd1 : decide ((65536 : Int) < (n : Int)) = false := by simp; omega
  clear h
  go_enter Try.func6, Try.ntmps6
  go_wp2_with fail
  refine (zz_holds _ _ _ _ hn).mono ?_
  rintro e w' ⟨rfl, hw⟩
  have hw2 := hw.symm
  subst hw2
  clear hw
  go_wp2_with fail
  refine (clone_any a n c l _ hn HH.out).mono ?_
  rintro e w1 ⟨⟨a1, c1, rfl, hc1, hrb1⟩, hb1⟩
  have HB1 : Hid (Below w.heap.size w w1) := hb1
  have HR1 : Hid (RB w1 a1 n l) := hrb1
  clear hb1 hrb1
  go_wp2_with fail
  refine (zzsplit_any a1 n c1 l _ hc1 hn HR1.out).mono ?_
  rintro e w2 ⟨⟨v1, v2, rfl, hz⟩, hb2⟩
  have HB2 : Hid (Below w.heap.size w w2) := HB1.out.trans (hb2.mono HB1.out.size)
  obtain ⟨T, U, m, rfl, rfl, hm, hcell⟩ := hz
  have HC : Hid (∀ i (h : i < (Plain.split l).length), (∃ tv, w2.cell? ⟨T, i, none⟩ = some tv ∧ Txt w2 tv ((Plain.split l)[i]).1) ∧ w2.cell? ⟨U, i, none⟩ = some (.int .i64 (((Plain.split l)[i]).2 : Int))) := hcell
  have hm1 : 0 < m := by omega
  have hm2 : m ≤ 65537 := by omega
  have u0 : w2.cell? ⟨U, 0, none⟩ = some (.int .i64 1) := by
    have h0 := (hcell 0 (by omega)).2
    rw [Plain.split_first l (by omega)] at h0
    exact h0
  have HM : Hid ((Plain.split l).length = m) := hm
  have hmz : ((m : Int) == 0) = false := beq_eq_false_iff_ne.2 (by omega)
  have hmm : ((m : Int) != (m : Int)) = false := by simp
  clear hcell hb2 hm hsz HR1 HB1
  go_wp2
  go_loopw [5] (fun i wr => ∃ k : Nat, k ≤ m ∧ i = .int .i64 k ∧ Hid (Below w2.heap.size w2 wr)) (fun i _ => m - (intOf i).toNat)
  case atStart => exact ⟨0, Nat.zero_le _, rfl, Below.refl _ _⟩
  case round =>
    clear u0
    obtain ⟨k, hk, rfl, HB⟩ := hrel
    by_cases hlt : k < m
    · have hcell := HC.out
      have hm' := HM.out
      have hks : k < (Plain.split l).length := by rw [hm']; exact hlt
      obtain ⟨⟨tv, ht1, ht2⟩, ht3⟩ := hcell k hks
      have HT1 : Hid (wr.cell? ⟨T, k, none⟩ = some tv) := cell_later HB.out ht1
      have HT2 : Hid (Txt wr tv ((Plain.split l)[k]).1) := ht2.kept HB.out
      have HT3 : Hid (wr.cell? ⟨U, k, none⟩ = some (.int .i64 (((Plain.split l)[k]).2 : Int))) := cell_later HB.out ht3
      have HPV : Hid (0 < k → ∃ x y : Nat, wr.cell? ⟨U, k - 1, none⟩ = some (.int .i64 (x : Int)) ∧ wr.cell? ⟨U, k, none⟩ = some (.int .i64 (y : Int)) ∧ x ≤ y) := by
        intro h0
        have hk1 : k - 1 < (Plain.split l).length := by omega
        refine ⟨_, _, cell_later HB.out (hcell (k - 1) hk1).2, HT3.out, ?_⟩
        have hu := Plain.up_at (Plain.split l) 1 (k - 1) (by omega) (Plain.split_up (Plain.lns l) 1 [] 1 (Nat.le_refl _))
        have e : k - 1 + 1 = k := by omega
        simpa [e] using hu
      have HAG : Hid (Plain.split ((Plain.split l)[k]).1 = [(((Plain.split l)[k]).1, 1)]) := Plain.again l _ (List.getElem_mem hks)
      have hlen : ((Plain.split l)[k]).1.length ≤ l.length := Plain.text_le l _ (List.getElem_mem hks)
      have HLN : Hid (((Plain.split l)[k]).1.length ≤ 65536) := by show _ ≤ _; rw [HH.out.1] at hlen; omega
      clear hcell ht1 ht2 ht3 hlen hm'
      generalize ((Plain.split l)[k]).1 = tx at *
      obtain ⟨ta, tn, tc, rfl, htc, hrb⟩ := HT2.out
      have HRB : Hid (RB wr ta tn tx) := hrb
      clear hrb HT2
      go_wp2
      go_cut [56] (fun y wx => y = .bool false ∧ Hid (∃ nq, wx = wr.drewN nq))
      case first =>
        by_cases h0 : 0 < k
        · obtain ⟨x, y, hx, hy, hxy⟩ := HPV.out h0
          have hkz : (0 : Int) < (k : Int) := by omega
          have ek : (k : Int) - 1 = ((k - 1 : Nat) : Int) := by omega
          have hk1 : k - 1 < m := by omega
          have hk2 : ((k - 1 : Nat) : Int) < (m : Int) := by omega
          have hk3 : (k : Int) < (m : Int) := by omega
          have hdd : decide ((y : Int) < (x : Int)) = false := by simp; omega
          go_quiet (fail)
          go_wp2_with fail
          go_meet
          exact ⟨by simp; omega, ⟨_, rfl⟩⟩
        · have hdd : decide ((0 : Int) < (k : Int)) = false := by simp; omega
          go_quiet (fail)
          go_wp2_with fail
          go_meet
          exact ⟨rfl, ⟨_, rfl⟩⟩
      case rest =>
        obtain ⟨rfl, hwq⟩ := hcut
        obtain ⟨nq, hwc⟩ := hwq.out
        have hwc2 := hwc.symm
        have HT4 : wc.cell? ⟨T, k, none⟩ = some (.slice ta tn tc) := by rw [hwc]; exact HT1.out
        have HRB4 : Hid (RB wc ta tn tx) := by rw [hwc]; exact HRB.out
        have HB4 : Hid (Below w2.heap.size w2 wc) := by rw [hwc]; exact below_drewN HB.out nq
        have htn : tn ≤ 65536 := by have := HLN.out; have := HRB.out.1; omega
        clear hwc hwc2 hwq HT1 HT3 HPV HRB HB HLN
        go_wp2_with fail
        refine (zzsplit_any ta tn tc tx _ htc htn HRB4.out).mono ?_
        rintro e w3 ⟨⟨v3, v4, rfl, hz3⟩, hb3⟩
        rw [HAG.out] at hz3
        obtain ⟨T3, U3, m3, rfl, rfl, hm3, hc3⟩ := hz3
        obtain rfl : 1 = m3 := hm3
        obtain ⟨⟨tv3, k3, ht3⟩, k4⟩ := hc3 0 (by simp)
        replace k4 : w3.cell? ⟨U3, 0, none⟩ = some (.int .i64 1) := k4
        replace ht3 : Txt w3 tv3 tx := ht3
        obtain ⟨ta3, tn3, tc3, rfl, htc3, hrb3⟩ := ht3
        have HRB3 : Hid (RB w3 ta3 tn3 tx) := hrb3
        have HRB5 : Hid (RB w3 ta tn tx) := HRB4.out.kept hb3
        have k5 : w3.cell? ⟨T, k, none⟩ = some (.slice ta tn tc) := cell_later hb3 HT4
        have HB5 : Hid (Below w2.heap.size w2 w3) := HB4.out.trans (hb3.mono HB4.out.size)
        have htn3 : tn3 ≤ 1048576 := by have h1 := HRB3.out.1; have h2 := HRB5.out.1; omega
        have hkz : (k : Int) < (m : Int) := by omega
        clear hc3 hrb3 hb3 HT4 HRB4 HB4
        go_wp2
        go_quiet ((go_at_call 13; exact quiet_of_draws (eq_any _ _ _ _ _ _ tx _ htn3 HRB3.out HRB5.out)))
        go_wp2
        go_roundw
        case rel => exact ⟨k + 1, by omega, by go_num, below_drewN HB5.out _⟩
        case measure => simp [intOf]; omega
    · go_wp2
      go_ret
      exact ⟨rfl, HB2.out.trans (HB.out.mono HB2.out.size)⟩

theorem walk (a : Option Addr) (n c : Nat) (l : List UInt8) (w : World) (hm : n ≤ maxLen) (h : RB w a n l) :
    Calls Try.prog 6 #[.slice a n c] w fun e w' => e = .returned (.bool true) ∧ Below w.heap.size w w' := by
  by_cases hn : n ≤ 65536
  · exact small a n c l w hn h
  · exact (big a n c w hm (by omega)).mono fun e w' ⟨he, hw⟩ => ⟨he, hw ▸ Below.refl _ _⟩

end Go.Proofs.Qxb6600245a.Hold
