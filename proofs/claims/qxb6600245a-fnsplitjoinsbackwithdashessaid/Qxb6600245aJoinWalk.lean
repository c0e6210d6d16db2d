/-
  THE WALK of FnSplitJoinsBackWithDashes (seat b6600245a).
-/
import Derived.Test.Qxb6600245aJoinParts
import Derived.Test.Qxb6600245aEndWalk
import Derived.Test.Qxb6600245aArr
namespace Go.Proofs.Qxb6600245a.Join
open Go.RowKit

set_option maxRecDepth 100000 in
theorem big (a : Option Addr) (n c : Nat) (w : World) (h : n ≤ maxLen) (hb : 65536 < n) :
    Calls Try.prog 5 #[.slice a n c] w fun e w' => e = .returned (.bool true) ∧ w' = w := by
  have hm : n ≤ 9223372036854775807 := h
  go_enter Try.func5, Try.ntmps5
  go_wp2_with fail
  refine (zz_joins_any _ _ _ _ h).mono ?_
  rintro e w' ⟨⟨b, rfl⟩, rfl⟩
  cases b
  all_goals
    go_wp2
    go_ret
    exact ⟨rfl, rfl⟩

set_option maxRecDepth 100000 in
theorem dotted (a : Option Addr) (n c : Nat) (l : List UInt8) (w : World) (hn : n ≤ 65536) (h : RB w a n l) (hd : (Plain.lns l).any (Plain.isM 46) = true) :
    Calls Try.prog 5 #[.slice a n c] w fun e w' => e = .returned (.bool true) ∧ w' = w := by
  have HH : Hid (RB w a n l) := h
  have HD : Hid ((Plain.lns l).any (Plain.isM 46) = true) := hd
  clear h hd
  go_enter Try.func5, Try.ntmps5
  go_wp2_with (first | (go_at_call 14; refine (zz_joins _ _ _ _ hn).mono ?_; rintro e w' ⟨rfl, hw⟩; have hw2 := hw.symm; subst hw2; clear hw) | (go_at_call 15; refine (hasEnd_any a n c l _ hn HH.out).mono ?_; rintro e w' ⟨rfl, hw⟩; have hw2 := hw.symm; subst hw2; clear hw; rw [HD.out]))
  go_ret
  exact ⟨rfl, rfl⟩

set_option maxHeartbeats 4000000 in
set_option maxRecDepth 100000 in
theorem small (a : Option Addr) (n c : Nat) (l : List UInt8) (w : World) (hn : n ≤ 65536) (h : RB w a n l) (hd : (Plain.lns l).any (Plain.isM 46) = false) :
    Calls Try.prog 5 #[.slice a n c] w fun e w' => e = .returned (.bool true) ∧ Below w.heap.size w w' := by
  obtain ⟨i5, hi5, hz5, hs5, hb5⟩ := info_parts info5
  have HH : Hid (RB w a n l) := h
  have HL : Hid (l.length = n) := h.1
  have HD : Hid ((Plain.lns l).any (Plain.isM 46) = false) := hd
  have hsz := Plain.split_size l
  rw [h.1] at hsz
  have hd1 : decide ((65536 : Int) < (n : Int)) = false := by simp; omega
  clear h hd
  go_enter Try.func5, Try.ntmps5
  go_wp2_with (first | (go_at_call 14; refine (zz_joins _ _ _ _ hn).mono ?_; rintro e w' ⟨rfl, hw⟩; have hw2 := hw.symm; subst hw2; clear hw) | (go_at_call 15; refine (hasEnd_any a n c l _ hn HH.out).mono ?_; rintro e w' ⟨rfl, hw⟩; have hw2 := hw.symm; subst hw2; clear hw; rw [HD.out]))
  refine (clone_any a n c l _ hn HH.out).mono ?_
  rintro e w1 ⟨⟨a1, c1, rfl, hc1, hrb1⟩, hb1⟩
  have HB1 : Hid (Below w.heap.size w w1) := hb1
  have HR1 : Hid (RB w1 a1 n l) := hrb1
  clear hb1 hrb1
  go_wp2_with fail
  refine (zzsplitN_any a1 n c1 l _ hc1 hn HR1.out).mono ?_
  rintro e w2 ⟨⟨v1, v2, rfl, hz⟩, hb2⟩
  have HB2 : Hid (Below w.heap.size w w2) := HB1.out.trans (hb2.mono HB1.out.size)
  have HR2 : Hid (RB w2 a1 n l) := HR1.out.kept hb2
  obtain ⟨T, U, m, rfl, rfl, hm, hcell⟩ := hz
  have hm1 : 0 < m := by omega
  have hm2 : m ≤ 65537 := by omega
  have HM : Hid (((Plain.split l).map (·.1)).length = m) := by show _ = _; simpa using hm
  have HC : Hid (∀ i (h : i < ((Plain.split l).map (·.1)).length), ∃ tv, w2.cell? ⟨T, i, none⟩ = some tv ∧ TxtN w2 tv ((Plain.split l).map (·.1))[i]) := by
    intro i hi
    have hi' : i < (Plain.split l).length := by simpa using hi
    simpa using (hcell i hi').1
  have HJ : Hid (Plain.join ((Plain.split l).map (·.1)) = l) := Plain.joined l HD.out
  clear hcell hb2 hm hsz HR1 HB1 HD
  generalize (Plain.split l).map (·.1) = X at *
  have hmz : ((m : Int) == 0) = false := beq_eq_false_iff_ne.2 (by omega)
  obtain ⟨B, hB⟩ : ∃ B, w2.heap.size = B := ⟨_, rfl⟩
  obtain ⟨tv, t0, ta, tn, tc, rfl, htc, htz, hrb⟩ := HC.out 0 (by have := HM.out; omega)
  have HRB : Hid (RB w2 ta tn (X[0]'(by have := HM.out; omega))) := hrb
  have HX0 : Hid (Plain.join (X.take 1) = X[0]'(by have := HM.out; omega)) := Plain.join_one X (by have := HM.out; omega)
  have htn : tn ≤ n := by
    have h1 := Plain.join_le X 1 (by omega)
    rw [HJ.out, HX0.out, HL.out] at h1
    have h2 := HRB.out.1
    omega
  clear hrb
  go_wp2_with (first
    | (at_make; refine wpList_make_own _ rfl _ _ 22 rfl B 5 i5 (.int .u8 0) 1 Try.underlying22 hi5 hz5 hs5 _ _ _ n rfl rfl rfl (by rw [hb5]; omega) (by unfold maxLen; omega) (by omega) ?_; rw [hB]; intro w3 hown3 hg3; have HB3 : Hid (Below B w2 w3) := (Below.refl B w2).grown hg3 (by omega) (fun k hk => by cases hk); have t3 : w3.cell? ⟨T, 0, none⟩ = some (.slice ta tn tc) := cell_later (by rw [hB]; exact HB3.out) t0; clear hg3)
    | (at_builtin; refine wpList_append_fits_any _ rfl (.tmp 28) (.tmp 31) 22 rfl B 5 i5 1 Try.underlying22 hi5 hs5 B 0 n [] rfl hown3 ta tn tc (cells (X[0]'(by have := HM.out; omega))) rfl (by rw [cells_len]; have := HRB.out.1; omega) (fun e => ⟨by have := htz e; omega, htz e⟩) (src_cells (HRB.out.kept (by rw [hB]; exact HB3.out))) (cells_one _) (by omega) ?_; intro w4 hown4 hg4))
  have HB4 : Hid (Below B w2 w4) := HB3.out.grown hg4 (by have := HB3.out.size; omega) (fun k hk => by cases hk; exact Nat.le_refl _)
  have HO4 : Hid (w4.ownsRow B 5 1 (.slice (some ⟨B, 0, none⟩) tn n) tn (cells (Plain.join (X.take 1)))) := by
    have h1 := hown4
    rw [HX0.out]
    simpa [Hid] using h1
  clear hown3 hown4 hg4 HB3 t3 t0 HX0 htc htz HRB
  go_loopw [5, 6] (fun v i wr => ∃ (j k : Nat), 1 ≤ j ∧ j ≤ m ∧ i = .int .i64 j ∧ v = .slice (some ⟨B, 0, none⟩) k n ∧ k ≤ n ∧ Hid (wr.ownsRow B 5 1 (.slice (some ⟨B, 0, none⟩) k n) k (cells (Plain.join (X.take j)))) ∧ Hid (Below B w2 wr)) (fun _ i _ => m - (intOf i).toNat)
  case atStart => exact ⟨1, tn, Nat.le_refl _, hm1, rfl, rfl, htn, HO4, HB4⟩
  case round =>
    clear HO4 HB4
    obtain ⟨j, k, hj1, hjm, rfl, rfl, hkn, HO, HB⟩ := hrel
    have hBw : B ≤ wr.heap.size := by have := HB.out.size; omega
    by_cases hlt : j < m
    · have hjX : j < X.length := by have := HM.out; omega
      obtain ⟨tv, t1, sa, sn, sc, rfl, hsc, hsz, hrb⟩ := HC.out j hjX
      have HJM : Hid (Plain.join (X.take (j + 1)) = Plain.join (X.take j) ++ [45, 45, 45] ++ X[j]) := Plain.join_more X j (by omega) hjX
      have hbw : Below w2.heap.size w2 wr := by rw [hB]; exact HB.out
      have t2 : wr.cell? ⟨T, j, none⟩ = some (.slice sa sn sc) := cell_later hbw t1
      have HRB : Hid (RB wr sa sn X[j]) := hrb.kept hbw
      have HRBk : Hid (∀ wz, Below B w2 wz → RB wz sa sn X[j]) := fun wz hz => hrb.kept (by rw [hB]; exact hz)
      have hkl : Hid ((Plain.join (X.take j)).length = k) := by have := HO.out.1; rw [cells_len] at this; show _ = _; omega
      have hks : k + 3 + sn ≤ n := by
        have h1 := Plain.join_le X (j + 1) (by omega)
        rw [HJ.out, HJM.out, HL.out] at h1
        have h2 := HRB.out.1
        have h3 := hkl.out
        simp at h1
        omega
      have htlt : T < B := by rw [← hB]; exact World.block_lt_of_cell? w2 _ t1
      clear hbw hrb
      generalize X[j] = x at *
      go_wp2_with (first
        | (at_builtin; refine wpList_append_fits _ rfl (.tmp 39) (.tmp 40) 22 rfl B 5 i5 1 Try.underlying22 hi5 hs5 B k n _ rfl (HO.out.alloc _) ⟨wr.heap.size, 0, none⟩ 3 3 (cells [45, 45, 45]) rfl rfl (dashes_new _) (cells_one _) (by omega) ?_; intro w5 hown5 hg5; have HB5 : Hid (Below B w2 w5) := (HB.out.alloc hBw _).grown hg5 (base_alloc hBw _) (fun q hq => by cases hq; exact Nat.le_refl _); have HB6 : Hid (Below B wr w5) := ((Below.refl B wr).alloc hBw _).grown hg5 (base_alloc hBw _) (fun q hq => by cases hq; exact Nat.le_refl _); have t5 : w5.cell? ⟨T, j, none⟩ = some (.slice sa sn sc) := by rw [HB6.out.cell (p := ⟨T, j, none⟩) htlt]; exact t2)
        | (at_builtin; refine wpList_append_fits_any _ rfl (.tmp 42) (.tmp 46) 22 rfl B 5 i5 1 Try.underlying22 hi5 hs5 B (k + 3) n _ rfl hown5 sa sn sc (cells x) rfl (by rw [cells_len]; have := HRB.out.1; omega) (fun e => ⟨by have := hsz e; omega, hsz e⟩) (src_cells (HRBk.out w5 HB5.out)) (cells_one _) (by omega) ?_; intro w6 hown6 hg6))
      have HO6 : Hid (w6.ownsRow B 5 1 (.slice (some ⟨B, 0, none⟩) (k + 3 + sn) n) (k + 3 + sn) (cells (Plain.join (X.take (j + 1))))) := by
        rw [HJM.out, cells_append, cells_append]
        exact hown6
      have HB7 : Hid (Below B w2 w6) := HB5.out.grown hg6 (by have := HB5.out.size; omega) (fun q hq => by cases hq; exact Nat.le_refl _)
      go_roundw
      case rel => exact ⟨j + 1, k + 3 + sn, by omega, by omega, by go_num, rfl, hks, HO6, HB7⟩
      case measure => simp [intOf]; omega
    · have hje : j = m := by omega
      subst hje
      have HJX : Hid (Plain.join (X.take j) = l) := by show _ = _; rw [List.take_of_length_le (by have := HM.out; omega)]; exact HJ.out
      have hbw : Below w2.heap.size w2 wr := by rw [hB]; exact HB.out
      have HRD : Hid (RB wr a1 n l) := HR2.out.kept hbw
      have ho := HO.out
      rw [HJX.out] at ho
      have hkn2 : Hid (l.length = k) := by have := ho.1; rw [cells_len] at this; show _ = _; omega
      have HRJ : Hid (RB wr (some ⟨B, 0, none⟩) k l) := by
        refine ⟨hkn2.out, .inr ⟨B, 0, rfl, fun q hq => ?_⟩⟩
        have := hkn2.out
        rw [Nat.zero_add, ho.cellAt q (by omega)]
        simp [cells, List.getElem?_eq_getElem hq]
      have HF : Hid (∀ q, Below w.heap.size w (wr.drewN q)) := fun q => HB2.out.trans ((below_drewN HB.out q).mono (by rw [← hB]; exact HB2.out.size))
      clear ho hbw HJX
      go_wp2_with fail
      refine (eq_any _ _ _ _ _ _ l _ (by omega) HRJ.out HRD.out).mono ?_
      rintro e w9 ⟨rfl, q, hq⟩
      go_wp2
      go_ret
      exact ⟨rfl, hq ▸ HF.out q⟩

theorem walk (a : Option Addr) (n c : Nat) (l : List UInt8) (w : World) (hm : n ≤ maxLen) (h : RB w a n l) :
    Calls Try.prog 5 #[.slice a n c] w fun e w' => e = .returned (.bool true) ∧ Below w.heap.size w w' := by
  by_cases hn : n ≤ 65536
  · cases hd : (Plain.lns l).any (Plain.isM 46) with
    | true => exact (dotted a n c l w hn h hd).mono fun e w' ⟨he, hw⟩ => ⟨he, hw ▸ Below.refl _ _⟩
    | false => exact small a n c l w hn h hd
  · exact (big a n c w hm (by omega)).mono fun e w' ⟨he, hw⟩ => ⟨he, hw ▸ Below.refl _ _⟩

end Go.Proofs.Qxb6600245a.Join
