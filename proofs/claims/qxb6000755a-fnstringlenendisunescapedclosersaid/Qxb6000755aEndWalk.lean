/-
  THE WALK of FnStringLenEndIsUnescapedCloser (seat b6000755a).
-/
import Derived.Test.Qxb6000755aWalks
namespace Go.Proofs.Qxb6000755a.EndWalk
open Go.RowKit

theorem zz_yes (s : ByteArray) (w : World) (h : s.size ≤ 1048576) :
    Calls Try.prog 16 #[.string s] w fun e w' => e = .returned (.bool true) ∧ w' = w := by
  go_enter Try.func16, Try.ntmps16
  go_wp2
  go_ret
  exact ⟨rfl, rfl⟩

theorem zz_no (s : ByteArray) (w : World) (h : 1048576 < s.size) (hm : s.size ≤ maxLen) :
    Calls Try.prog 16 #[.string s] w fun e w' => e = .returned (.bool false) ∧ w' = w := by
  unfold maxLen at hm
  go_enter Try.func16, Try.ntmps16
  go_wp2
  go_ret
  exact ⟨rfl, rfl⟩

theorem big (s : ByteArray) (w : World) (h : 1048576 < s.size) (hm : s.size ≤ maxLen) :
    Calls Try.prog 6 #[.string s] w fun e w' => e = .returned (.bool true) ∧ w' = w := by
  go_enter Try.func6, Try.ntmps6
  go_wp2_with (go_at_call 16; refine (zz_no _ _ h hm).mono ?_; rintro e w' ⟨rfl, rfl⟩)
  go_ret
  exact ⟨rfl, rfl⟩

theorem empty (s : ByteArray) (w : World) (h : s.size = 0) :
    Calls Try.prog 6 #[.string s] w fun e w' => e = .returned (.bool true) ∧ w' = w := by
  go_enter Try.func6, Try.ntmps6
  go_wp2_with (go_at_call 16; refine (zz_yes _ _ (by omega)).mono ?_; rintro e w' ⟨rfl, rfl⟩)
  go_ret
  exact ⟨rfl, rfl⟩

theorem none_found (s : ByteArray) (w : World) (h0 : 0 < s.size) (hs : s.size ≤ 1048576) (HK : Hid (Plain.strLen s.data.toList = -1)) :
    Calls Try.prog 6 #[.string s] w fun e w' => e = .returned (.bool true) ∧ w' = w := by
  go_enter Try.func6, Try.ntmps6
  go_wp2_with (first | (go_at_call 16; refine (zz_yes _ _ hs).mono ?_; rintro e w' ⟨rfl, rfl⟩) | (go_at_call 15; refine (zzStringLen_any _ _ (by omega) h0).mono ?_; rintro e w' ⟨rfl, rfl⟩; rw [HK.out]))
  go_ret
  exact ⟨rfl, rfl⟩

set_option maxHeartbeats 400000 in
theorem raw_found (s : ByteArray) (w : World) (h0 : 0 < s.size) (hs : s.size ≤ 1048576) (k : Nat) (HK : Hid (Plain.strLen s.data.toList = k)) (hk2 : 2 ≤ k) (hkl : k ≤ s.size)
    (hq : ((s[0].toNat : Int) == 96) = true) (hc : ((s[k - 1].toNat : Int) == 96) = true) (hin : ∀ i (hi : i < s.size), 1 ≤ i → i < k - 1 → ((s[i].toNat : Int) == 96) = false) :
    Calls Try.prog 6 #[.string s] w fun e w' => e = .returned (.bool true) ∧ w' = w := by
  have ek : (k : Int) - 1 = ((k - 1 : Nat) : Int) := by omega
  have hq2 : (s[k - 1].toNat : Int) = 96 := by simpa using hc
  have hbn : (((s[k - 1].toNat : Int)) != 96) = false := by rw [hq2]; rfl
  go_enter Try.func6, Try.ntmps6
  go_wp2_with (first | (go_at_call 16; refine (zz_yes _ _ hs).mono ?_; rintro e w' ⟨rfl, rfl⟩) | (go_at_call 15; refine (zzStringLen_any _ _ (by omega) h0).mono ?_; rintro e w' ⟨rfl, rfl⟩; rw [HK.out]))
  go_loop [4] (fun i => ∃ j : Nat, 1 ≤ j ∧ j ≤ k - 1 ∧ i = .int .i64 j) (fun i => k - (intOf i).toNat)
  case atStart => exact ⟨1, by omega, by omega, rfl⟩
  case round =>
    obtain ⟨j, hj1, hj, rfl⟩ := hrel
    by_cases hlt : j < k - 1
    · have ht := hin j (by omega) hj1 hlt
      have hjs : j < s.size := by omega
      clear hin
      go_wp2
      go_round
      case rel => exact ⟨j + 1, by omega, by omega, by go_num⟩
      case measure => simp [intOf]; omega
    · clear hin
      go_wp2
      go_ret
      exact ⟨rfl, rfl⟩

set_option maxHeartbeats 400000 in
theorem interp_found (s : ByteArray) (w : World) (h0 : 0 < s.size) (hs : s.size ≤ 1048576) (k : Nat) (HK : Hid (Plain.strLen s.data.toList = k)) (hk2 : 2 ≤ k) (hkl : k ≤ s.size)
    (hq : ((s[0].toNat : Int) == 96) = false) (hc : ((s[k - 1].toNat : Int) == 34) = true) (HR : Hid (Plain.runTo s.data.toList (k - 2) % 2 = 0)) :
    Calls Try.prog 6 #[.string s] w fun e w' => e = .returned (.bool true) ∧ w' = w := by
  have ek : (k : Int) - 1 = ((k - 1 : Nat) : Int) := by omega
  have ek2 : (k : Int) - 2 = ((k - 2 : Nat) : Int) := by omega
  have hq2 : (s[k - 1].toNat : Int) = 34 := by simpa using hc
  have hbn : (((s[k - 1].toNat : Int)) != 34) = false := by rw [hq2]; rfl
  have hd1 : decide (s.size < k) = false := by simp; omega
  have hd2 : decide ((k : Int) < 2) = false := by simp; omega
  have hd3 : ((k : Int) == -1) = false := beq_eq_false_iff_ne.2 (by omega)
  go_enter Try.func6, Try.ntmps6
  go_wp2_with (first | (go_at_call 16; refine (zz_yes _ _ hs).mono ?_; rintro e w' ⟨rfl, rfl⟩) | (go_at_call 15; refine (zzStringLen_any _ _ (by omega) h0).mono ?_; rintro e w' ⟨rfl, rfl⟩; rw [HK.out]))
  go_loop [5, 6] (fun r i => ∃ m j : Nat, j ≤ k - 2 ∧ m ≤ k ∧ r = .int .i64 m ∧ i = .int .i64 j ∧ Hid (m + Plain.runTo s.data.toList j = Plain.runTo s.data.toList (k - 2))) (fun _ i => (intOf i).toNat)
  case atStart => exact ⟨0, k - 2, by omega, by omega, rfl, rfl, Nat.zero_add _⟩
  case round =>
    obtain ⟨m, j, hj, hm, rfl, rfl, HI⟩ := hrel
    cases j with
    | zero =>
      have e : m % 2 = 0 := by
        have := HI.out
        rw [Plain.runTo_zero] at this
        rw [← HR.out, ← this]
        rfl
      clear HI
      have e2 : ((m : Int) % 2 == 0) = true := by simp; omega
      clear e
      go_wp2
      go_ret
      exact ⟨rfl, rfl⟩
    | succ j =>
      have hjs : j + 1 < s.size := by omega
      have hrs := Plain.runTo_succ s.data.toList j (by rw [len_data]; exact hjs)
      rw [at_data s (j + 1) hjs] at hrs
      have hle := Plain.runTo_le s.data.toList (k - 2)
      cases hb : ((s[j + 1].toNat : Int) == 92) with
      | true =>
        have HI2 : Hid (m + 1 + Plain.runTo s.data.toList j = Plain.runTo s.data.toList (k - 2)) := by
          have h1 := HI.out
          rw [hrs, if_pos (show s[j + 1] = 92 from byte_yes (n := 92) hb)] at h1
          show _ = _
          omega
        have hm1 : m + 1 ≤ k := by
          have := HI2.out
          omega
        clear HI hrs hle
        go_wp2
        go_round
        case rel => exact ⟨m + 1, j, by omega, by omega, by go_num, by go_num, HI2⟩
        case measure => simp [intOf]
      | false =>
        have e : m % 2 = 0 := by
          have h1 := HI.out
          rw [hrs, if_neg (show ¬ s[j + 1] = 92 from byte_no (n := 92) (by omega) hb)] at h1
          rw [← HR.out, ← h1]
          rfl
        have e2 : ((m : Int) % 2 == 0) = true := by simp; omega
        clear HI hrs hle e
        go_wp2
        go_ret
        exact ⟨rfl, rfl⟩

theorem walk (s : ByteArray) (w : World) (hm : s.size ≤ maxLen) :
    Calls Try.prog 6 #[.string s] w fun e w' => e = .returned (.bool true) ∧ w' = w := by
  by_cases hs : s.size ≤ 1048576
  · by_cases h0 : 0 < s.size
    · have hl : 0 < s.data.toList.length := by rw [len_data]; exact h0
      rcases Plain.end_spec s.data.toList hl with h | ⟨k, hk, hk2, hkl, hraw, hint⟩
      · exact none_found s w h0 hs h
      · have hkl' : k ≤ s.size := by rw [← len_data]; exact hkl
        have hkb : k - 1 < s.size := by omega
        have hkd : s.data.toList[k - 1]? = some s[k - 1] := by rw [← at_data s (k - 1) hkb]; exact List.getElem?_eq_getElem _
        have h00 : s.data.toList[0] = s[0] := at_data s 0 h0
        cases hq : ((s[0].toNat : Int) == 96) with
        | true =>
          obtain ⟨g1, g2⟩ := hraw (by rw [h00]; exact byte_yes (n := 96) hq)
          refine raw_found s w h0 hs k hk hk2 hkl' hq ?_ ?_
          · rw [hkd] at g1
            rw [Option.some.inj g1]; rfl
          · intro i hi h1 h2
            have hne := g2 i h1 h2
            rw [show s.data.toList[i]? = some s[i] from by rw [← at_data s i hi]; exact List.getElem?_eq_getElem _] at hne
            cases hb : ((s[i].toNat : Int) == 96) with
            | false => rfl
            | true => exact absurd (by rw [byte_yes (n := 96) hb]; rfl) hne
        | false =>
          obtain ⟨g1, g2⟩ := hint (by rw [h00]; exact byte_no (n := 96) (by omega) hq)
          refine interp_found s w h0 hs k hk hk2 hkl' hq ?_ g2
          rw [hkd] at g1
          rw [Option.some.inj g1]; rfl
    · exact empty s w (by omega)
  · exact big s w (by omega) hm

end Go.Proofs.Qxb6000755a.EndWalk
