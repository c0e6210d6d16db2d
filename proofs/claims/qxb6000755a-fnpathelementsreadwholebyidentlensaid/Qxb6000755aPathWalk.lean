/-
  THE WALK of FnPathElementsReadWholeByIdentLen (seat b6000755a).
-/
import Derived.Test.Qxb6000755aRuneWalk
namespace Go.Proofs.Qxb6000755a.Path
open Go.RowKit

theorem zz_yes (s : ByteArray) (w : World) (h : s.size ≤ 1048576) :
    Calls Try.prog 12 #[.string s] w fun e w' => e = .returned (.bool true) ∧ w' = w := by
  go_enter Try.func12, Try.ntmps12
  go_wp2
  go_ret
  exact ⟨rfl, rfl⟩

theorem zz_no (s : ByteArray) (w : World) (h : 1048576 < s.size) (hm : s.size ≤ maxLen) :
    Calls Try.prog 12 #[.string s] w fun e w' => e = .returned (.bool false) ∧ w' = w := by
  unfold maxLen at hm
  go_enter Try.func12, Try.ntmps12
  go_wp2
  go_ret
  exact ⟨rfl, rfl⟩

theorem big (s : ByteArray) (w : World) (h : 1048576 < s.size) (hm : s.size ≤ maxLen) :
    Calls Try.prog 4 #[.string s] w fun e w' => e = .returned (.bool true) ∧ w' = w := by
  go_enter Try.func4, Try.ntmps4
  go_wp2_with (go_at_call 12; refine (zz_no _ _ h hm).mono ?_; rintro e w' ⟨rfl, rfl⟩)
  go_ret
  exact ⟨rfl, rfl⟩

/-- What the law's own loop has seen at place j. -/
def Seen (s : ByteArray) (j : Nat) : Prop := ∀ h : j < s.size, (s[j].toNat : Int) = 47 ∧ (∀ h2 : j + 1 < s.size, s[j + 1] ≠ 47) ∨ (s[j].toNat : Int) ≠ 47 ∧ Good (s[j].toNat : Int)

theorem goes (s : ByteArray) (h : ∀ j, 1 ≤ j → Seen s j) : ∀ k, 1 ≤ k → GoesOn s k := by
  intro k hk hlt
  rcases h k hk hlt with ⟨e, hn⟩ | g
  · refine .inl ⟨e, fun h2 => ⟨hn h2, ?_⟩⟩
    rcases h (k + 1) (by omega) h2 with ⟨e2, _⟩ | ⟨_, g2⟩
    · intro e3
      rw [e3] at e2
      simp at e2
    · intro e3
      rw [e3] at g2
      exact g2.2.2.2.2.2 rfl
  · exact .inr g

theorem seen_step {s : ByteArray} {k : Nat} (h : ∀ j, 1 ≤ j → j < k → Seen s j) (hk : Seen s k) : ∀ j, 1 ≤ j → j < k + 1 → Seen s j := by
  intro j h1 h2
  by_cases e : j = k
  · subst e; exact hk
  · exact h j h1 (by omega)

theorem drewN_more {w : World} {n m : Nat} : ∃ x, (w.drewN n).drewN m = w.drewN x := ⟨n + m, by simp⟩

set_option maxHeartbeats 1000000 in
theorem small (s : ByteArray) (w : World) (hs : s.size ≤ 1048576) :
    Calls Try.prog 4 #[.string s] w fun e w' => e = .returned (.bool true) ∧ ∃ n, w' = w.drewN n := by
  have hd1 : decide ((1048576 : Int) < (s.size : Int)) = false := by simp; omega
  go_enter Try.func4, Try.ntmps4
  go_wp2_with (go_at_call 12; refine (zz_yes _ _ hs).mono ?_; rintro e w' ⟨rfl, hw⟩; have hw2 := hw.symm; subst hw2; clear hw)
  go_loopw [3] (fun i wr => ∃ k : Nat, 1 ≤ k ∧ k ≤ s.size + 1 ∧ i = .int .i64 k ∧ Hid (∀ j, 1 ≤ j → j < k → Seen s j) ∧ Hid (∃ n, wr = w.drewN n)) (fun i _ => s.size + 1 - (intOf i).toNat)
  case atStart => exact ⟨1, by omega, by omega, rfl, fun j h1 h2 => by omega, 0, rfl⟩
  case round =>
    obtain ⟨k, hk1, hk, rfl, HS, HW⟩ := hrel
    by_cases hlt : k < s.size
    · cases hq : ((s[k].toNat : Int) == 47) with
      | true =>
        have e47 : Hid ((s[k].toNat : Int) = 47) := by simpa [Hid] using hq
        by_cases h2 : k + 1 < s.size
        · cases hq2 : ((s[k + 1].toNat : Int) == 47) with
          | true =>
            go_wp2
            go_ret
            exact ⟨rfl, HW.out⟩
          | false =>
            have hn : Hid (Seen s k) := fun _ => .inl ⟨e47.out, fun _ => byte_no (n := 47) (by omega) hq2⟩
            go_wp2
            go_roundw
            case rel => exact ⟨k + 1, by omega, by omega, by go_num, seen_step HS.out hn.out, HW⟩
            case measure => simp [intOf]; omega
        · have hn : Hid (Seen s k) := fun _ => .inl ⟨e47.out, fun h => absurd h h2⟩
          go_wp2
          go_roundw
          case rel => exact ⟨k + 1, by omega, by omega, by go_num, seen_step HS.out hn.out, HW⟩
          case measure => simp [intOf]; omega
      | false =>
        have hub : s[k].toNat < 256 := s[k].toNat_lt
        have hne : Hid ((s[k].toNat : Int) ≠ 47) := by simpa [Hid] using hq
        obtain ⟨n, hn⟩ := HW.out
        go_wp2_with fail
        refine (zzPathRune_any _ _ (by omega) (by omega)).mono ?_
        rintro e w' ⟨⟨b, rfl, hb⟩, m, hw'⟩
        have HW2 : Hid (∃ x, w' = w.drewN x) := by subst hw' hn; exact drewN_more
        clear hw' hn
        cases b with
        | false =>
          clear hb
          go_wp2
          go_ret
          exact ⟨rfl, HW2.out⟩
        | true =>
          have HN : Hid (Seen s k) := fun _ => .inr ⟨hne.out, hb rfl⟩
          clear hb
          go_wp2
          go_roundw
          case rel => exact ⟨k + 1, by omega, by omega, by go_num, seen_step HS.out HN.out, HW2⟩
          case measure => simp [intOf]; omega
    · have HG : Hid (∀ j, 1 ≤ j → GoesOn s j) := goes s (fun j h1 h => HS.out j h1 (by omega) h)
      clear HS
      go_wp2_with (go_at_call 13; refine (zzIdentLen_whole s _ hs HG.out).mono ?_; rintro e w' ⟨rfl, hw⟩; have hw2 := hw.symm; subst hw2; clear hw)
      go_ret
      exact ⟨by simp, HW.out⟩

theorem grown_drewN (w : World) : ∀ n : Nat, Grown w (w.drewN n)
  | 0 => Grown.refl w
  | n + 1 => (grown_drewN w n).drew

theorem walk (s : ByteArray) (w : World) (hm : s.size ≤ maxLen) :
    Calls Try.prog 4 #[.string s] w fun e w' => e = .returned (.bool true) ∧ Grown w w' := by
  by_cases hs : s.size ≤ 1048576
  · exact (small s w hs).mono fun e w' ⟨he, n, hw⟩ => ⟨he, hw ▸ grown_drewN w n⟩
  · exact (big s w (by omega) hm).mono fun e w' ⟨he, hw⟩ => ⟨he, hw ▸ Grown.refl _⟩

end Go.Proofs.Qxb6000755a.Path
