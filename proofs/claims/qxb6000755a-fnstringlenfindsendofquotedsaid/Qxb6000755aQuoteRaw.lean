/-
  THE WALK of FnStringLenFindsEndOfQuoted, raw (seat b6000755a).
-/
import Derived.Test.Qxb6000755aQuoteParts
namespace Go.Proofs.Qxb6000755a.Quote
open Go.RowKit

set_option maxHeartbeats 1000000 in
set_option maxRecDepth 100000 in
theorem raw (s t : ByteArray) (w : World) (hs : s.size ≤ 524288) (ht : t.size ≤ 524288) (B : Nat) (hB : w.heap.size = B) :
    Calls Try.prog 5 #[.string s, .string t, .bool true] w fun e w' => e = .returned (.bool true) ∧ Below B w w' := by
  obtain ⟨i0, hi, hz0, hz1, hz2⟩ := info_parts info5
  have hd1 : decide ((524288 : Int) < (s.size : Int)) = false := by simp; omega
  have hd2 : decide ((524288 : Int) < (t.size : Int)) = false := by simp; omega
  go_enter Try.func5, Try.ntmps5
  go_wp2_with (first
    | (go_at_call 14; refine (zz_yes _ _ _ _ hs ht).mono ?_; rintro e w' ⟨rfl, hw⟩; have hw2 := hw.symm; subst hw2; clear hw)
    | (at_make; refine wpList_make_own _ rfl _ _ 26 rfl B 5 i0 (.int .u8 0) 1 Try.underlying26 hi hz0 hz1 _ _ _ (2 * s.size + 2) rfl rfl (by omega) (by rw [hz2]; omega) (by unfold maxLen; omega) (by omega) ?_; rw [hB]; intro w0 hown0 hg0)
    | (at_builtin; refine wpList_append_fits _ rfl (.tmp 31) (.tmp 32) 26 rfl B 5 i0 1 Try.underlying26 hi hz1 B 0 (2 * s.size + 2) _ rfl (hown0.alloc _) ⟨w0.heap.size, 0, none⟩ 1 1 [.int .u8 96] rfl rfl (cell_one_new _ _ _) (one_cell rfl) (by omega) ?_; intro w1 hown1 hg1))
  have hb1 : Below B w w1 := (((Below.refl B w).grown hg0 (by omega) (fun x hx => by cases hx)).alloc (by have := hg0.size; omega) _).grown hg1 (by have := hg0.size; simp; omega) (fun x hx => by cases hx; exact Nat.le_refl _)
  have hown1' : w1.ownsRow B 5 1 (.slice (some ⟨B, 0, none⟩) 1 (2 * s.size + 2)) 1 (cells (96 :: Plain.unq (s.data.toList.take 0))) := hown1
  clear hown1 hown0 hg0 hg1
  go_loopw [7, 8] (fun out i wr => ∃ k n : Nat, k ≤ s.size ∧ n ≤ k + 1 ∧ i = .int .i64 k ∧ out = .slice (some ⟨B, 0, none⟩) n (2 * s.size + 2) ∧
      wr.ownsRow B 5 1 (.slice (some ⟨B, 0, none⟩) n (2 * s.size + 2)) n (cells (96 :: Plain.unq (s.data.toList.take k))) ∧ Below B w wr)
    (fun _ i _ => s.size - (intOf i).toNat)
  case atStart => exact ⟨0, 1, Nat.zero_le _, by omega, rfl, rfl, hown1', hb1⟩
  case round =>
    clear hown1' hb1
    obtain ⟨k, n, hk, hn, rfl, rfl, hown, hb⟩ := hrel
    by_cases hlt : k < s.size
    · cases hq : ((s[k].toNat : Int) != 96) with
      | true =>
        have HS : Hid (96 :: Plain.unq (s.data.toList.take (k + 1)) = (96 :: Plain.unq (s.data.toList.take k)) ++ [s[k]]) := by
          show _ = _
          rw [take_snoc s k hlt]
          refine raw_step _ _ (byte_no (n := 96) (by omega) ?_)
          simpa [bne] using hq
        go_wp2_with (at_builtin; refine wpList_append_fits _ rfl (.tmp 44) (.tmp 48) 26 rfl B 5 i0 1 Try.underlying26 hi hz1 B n (2 * s.size + 2) _ rfl (hown.alloc _) ⟨wr.heap.size, 0, none⟩ 1 1 [.int .u8 (s[k].toNat : Int)] rfl rfl (cell_one_new _ _ _) (one_cell rfl) (by omega) ?_; intro w2 hown2 hg2)
        have hown2' := own_snoc hown2 rfl HS.out
        have hb2 : Below B w w2 := (hb.alloc (by have := hb.size; omega) _).grown hg2 (by have := hb.size; simp; omega) (fun x hx => by cases hx; exact Nat.le_refl _)
        go_roundw
        case rel => exact ⟨k + 1, n + 1, by omega, by omega, by go_num, rfl, hown2', hb2⟩
        case measure => simp [intOf]; omega
      | false =>
        have HS : Hid (Plain.unq (s.data.toList.take (k + 1)) = Plain.unq (s.data.toList.take k)) := by
          show _ = _
          rw [take_snoc s k hlt]
          refine raw_skip _ _ (byte_yes (n := 96) ?_)
          simpa [bne] using hq
        go_wp2
        go_roundw
        case rel => exact ⟨k + 1, n, by omega, by omega, by go_num, rfl, by rw [HS.out]; exact hown, hb⟩
        case measure => simp [intOf]; omega
    · have hke : k = s.size := by omega
      subst hke
      rw [List.take_of_length_le (by rw [len_data]; exact Nat.le_refl _)] at hown
      have hwz : B ≤ wr.heap.size := by have := hb.size; omega
      have HL : Hid (Plain.strLen ((96 :: Plain.unq s.data.toList ++ [96]) ++ t.data.toList) = ((96 :: Plain.unq s.data.toList ++ [96]).length : Int)) := lit_raw _ _
      obtain ⟨lit, hlit⟩ : ∃ l, l = 96 :: Plain.unq s.data.toList ++ [96] := ⟨_, rfl⟩
      rw [← hlit] at HL
      have HC : Hid (lit = (96 :: Plain.unq s.data.toList) ++ [96]) := hlit
      clear hlit
      go_wp2_with (first
        | (at_builtin; refine wpList_append_fits _ rfl (.tmp 50) (.tmp 51) 26 rfl B 5 i0 1 Try.underlying26 hi hz1 B n (2 * s.size + 2) _ rfl (hown.alloc _) ⟨wr.heap.size, 0, none⟩ 1 1 [.int .u8 96] rfl rfl (cell_one_new _ _ _) (one_cell rfl) (by omega) ?_; intro w2 hownC hgC; obtain ⟨hown2, hN, hb2, hB2, hw2⟩ := closer (b := 96) hownC HC.out rfl hb hgC hB; clear hownC hgC; obtain ⟨G, hG⟩ : ∃ G, w2.heap.size = G := ⟨_, rfl⟩)
        | (at_make; refine wpList_make_own _ rfl _ _ 26 rfl G 5 i0 (.int .u8 0) 1 Try.underlying26 hi hz0 hz1 _ _ _ (n + 1 + t.size) rfl rfl (by omega) (by rw [hz2]; omega) (by unfold maxLen; omega) (by omega) ?_; rw [hG]; intro w3 hown3 hg3)
        | (at_builtin; refine wpList_append_fits _ rfl (.tmp 88) (.tmp 89) 26 rfl G 5 i0 1 Try.underlying26 hi hz1 G 0 (n + 1 + t.size) _ rfl hown3 ⟨B, 0, none⟩ (n + 1) (2 * s.size + 2) (cells lit) rfl (by rw [cells_len, hN.out]; omega) ((hown2.kept hg3 (.inr (by simp [Value.ownBlock]))).cells (g := B) rfl) (cells_one _) (by omega) ?_; intro w4 hown4 hg4))
      clear hown HC hwz hb
      have hb4 : Below B w w4 := (hb2.grown hg3 hw2 (fun x hx => by cases hx)).grown hg4 (Nat.le_trans hw2 hg3.size) (fun x hx => by cases hx; omega)
      have hown4' : w4.ownsRow G 5 1 (.slice (some ⟨G, 0, none⟩) (n + 1 + 0) (n + 1 + t.size)) (n + 1 + 0) (cells (lit ++ t.data.toList.take 0)) := by simpa using hown4
      clear hown4 hown3 hg3 hg4 hb2 hown2
      go_loopw [12, 13] (fun out i wr => ∃ k : Nat, k ≤ t.size ∧ i = .int .i64 k ∧ out = .slice (some ⟨G, 0, none⟩) (n + 1 + k) (n + 1 + t.size) ∧
          wr.ownsRow G 5 1 (.slice (some ⟨G, 0, none⟩) (n + 1 + k) (n + 1 + t.size)) (n + 1 + k) (cells (lit ++ t.data.toList.take k)) ∧ Below B w wr ∧ G ≤ wr.heap.size)
        (fun _ i _ => t.size - (intOf i).toNat)
      case atStart => exact ⟨0, Nat.zero_le _, rfl, by simp, hown4', hb4, by have := (hown4'.lt G rfl).2; omega⟩
      case round =>
        clear hown4' hb4
        obtain ⟨k, hk, rfl, rfl, hown, hb, hGw⟩ := hrel
        have hwz : B ≤ wr.heap.size := by omega
        by_cases hlt2 : k < t.size
        · have HS : Hid (lit ++ t.data.toList.take (k + 1) = (lit ++ t.data.toList.take k) ++ [t[k]]) := by
            show _ = _
            rw [take_snoc t k hlt2, List.append_assoc]
          go_wp2_with (at_builtin; refine wpList_append_fits _ rfl (.tmp 97) (.tmp 101) 26 rfl G 5 i0 1 Try.underlying26 hi hz1 G (n + 1 + k) (n + 1 + t.size) _ rfl (hown.alloc _) ⟨wr.heap.size, 0, none⟩ 1 1 [.int .u8 (t[k].toNat : Int)] rfl rfl (cell_one_new _ _ _) (one_cell rfl) (by omega) ?_; intro w5 hown5 hg5)
          have hown5' := own_snoc hown5 rfl HS.out
          have hb5 : Below B w w5 := (hb.alloc (by omega) _).grown hg5 (by simp; omega) (fun x hx => by cases hx; omega)
          have hs5 : G ≤ w5.heap.size := by have := (hown5.lt G rfl).2; omega
          go_roundw
          case rel => exact ⟨k + 1, by omega, by go_num, by simp [Nat.add_assoc], by simpa [Nat.add_assoc] using hown5', hb5, hs5⟩
          case measure => simp [intOf]; omega
        · have hke : k = t.size := by omega
          subst hke
          rw [List.take_of_length_le (by rw [len_data]; exact Nat.le_refl _)] at hown
          have hcv := conv hown
          have hsz : ((⟨(lit ++ t.data.toList).toArray⟩ : ByteArray)).size = n + 1 + t.size := by
            have h1 := hown.1
            rw [cells_len] at h1
            show (lit ++ t.data.toList).toArray.size = _
            simpa using h1
          have HL2 : Hid (Plain.strLen (⟨(lit ++ t.data.toList).toArray⟩ : ByteArray).data.toList = ((n + 1 : Nat) : Int)) := by
            show _ = _
            rw [← hN.out]; exact HL.out
          generalize (⟨(lit ++ t.data.toList).toArray⟩ : ByteArray) = q at hcv hsz HL2
          have hq1 : q.size ≤ 4194304 := by omega
          have hq2 : 0 < q.size := by omega
          clear hown hsz HL hN
          go_wp2_with (go_at_call 15; refine (zzStringLen_any q _ hq1 hq2).mono ?_; rintro e w' ⟨rfl, hw⟩; have hw2 := hw.symm; subst hw2; clear hw; rw [HL2.out])
          go_ret
          exact ⟨rfl, hb⟩

end Go.Proofs.Qxb6000755a.Quote
