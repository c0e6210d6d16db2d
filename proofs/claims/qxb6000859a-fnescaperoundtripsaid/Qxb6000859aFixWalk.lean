/-
  THE WALK of FnEscapeFixedPointAndLength.
-/
import Derived.Test.Qxb6000859aEscape
import Derived.Test.Qxb6000859aBytes
namespace Go.Proofs.Qxb6000859a
open Go.RowKit

theorem size_mk (l : List UInt8) : (ByteArray.mk l.toArray).size = l.length := by simp [ByteArray.size]
theorem mk_eq (s : ByteArray) (l : List UInt8) (h : l = s.data.toList) : ByteArray.mk l.toArray = s := by
  subst h; simp
theorem mk_ne (s : ByteArray) (l : List UInt8) (h : l ≠ s.data.toList) : ByteArray.mk l.toArray ≠ s := by
  intro e; apply h; rw [← e]

theorem bytes_no {x y : ByteArray} (h : x ≠ y) : (x.toList == y.toList) = false := by
  rw [ByteArray.toList_eq, ByteArray.toList_eq]
  rw [beq_eq_false_iff_ne]
  intro e
  apply h
  cases x; cases y
  simp at e
  rw [e]

theorem fix_facts (s : ByteArray) : ∃ m, (ByteArray.mk (esc s.data.toList).toArray).size = s.size + 2 * m ∧ m ≤ s.size := by
  obtain ⟨_, h2, m, h3⟩ := esc_len s.data.toList
  rw [len_data] at h2 h3
  exact ⟨m, by rw [size_mk]; exact h3, by omega⟩
theorem fix_yes (s : ByteArray) (h : ∀ j (hj : j < s.size), unres s[j].toNat = true) : ByteArray.mk (esc s.data.toList).toArray = s := by
  apply mk_eq
  apply esc_self
  intro c hc
  obtain ⟨j, hj, rfl⟩ := List.getElem_of_mem hc
  exact h j (by rw [len_data] at hj; exact hj)
theorem fix_no (s : ByteArray) (k : Nat) (hk : k < s.size) (h : unres s[k].toNat = false) : ByteArray.mk (esc s.data.toList).toArray ≠ s :=
  mk_ne s _ (esc_ne _ k (by rw [len_data]; exact hk) h)

set_option maxHeartbeats 1000000 in
theorem fix_small (s : ByteArray) (w : World) (hs : s.size ≤ 1048576) :
    Calls Try.prog 5 #[.string s] w fun e w' => e = .returned (.bool true) ∧ Below w.heap.size w w' := by
  have HD : Hid (decide (s.size ≤ 1048576) = true) := decide_eq_true hs
  go_enter Try.func5, Try.ntmps5
  go_wp2_with fail
  refine (zzBytes14_any _ _ (by omega)).mono ?_
  rintro e w' ⟨rfl, hw⟩; have hw2 := hw.symm; subst hw2; clear hw
  rw [HD.out]; clear HD
  go_wp2_with fail
  refine (zzEscape_any s _ hs).mono ?_
  rintro e w1 ⟨rfl, hb⟩
  have HL : Hid (Below w.heap.size w w1) := hb
  clear hb
  have HY : Hid ((∀ j (hj : j < s.size), unres s[j].toNat = true) → ByteArray.mk (esc s.data.toList).toArray = s) := fix_yes s
  have HN : Hid (∀ (k : Nat) (hk : k < s.size), unres s[k].toNat = false → ByteArray.mk (esc s.data.toList).toArray ≠ s) := fix_no s
  obtain ⟨m, hm1, hm2⟩ := fix_facts s
  generalize ByteArray.mk (esc s.data.toList).toArray = E at hm1 HY HN ⊢
  have hm3 : (E.size : Int) = s.size + 2 * m := by omega
  clear hm1
  go_wp2_with fail
  go_loop [4, 5] (fun a i => ∃ k : Nat, k ≤ s.size ∧ a = .bool true ∧ i = .int .i64 k ∧ Hid (∀ j (hj : j < s.size), j < k → unres s[j].toNat = true)) (fun a i => s.size - (intOf i).toNat)
  case atStart => exact ⟨0, Nat.zero_le _, rfl, rfl, fun j _ h => by omega⟩
  case round =>
    obtain ⟨k, hk, rfl, rfl, HA⟩ := hrel
    by_cases hlt : k < s.size
    · go_wp2_with fail
      refine (isUnreserved_any _ _).mono ?_
      rintro e w' ⟨rfl, hw⟩; have hw2 := hw.symm; subst hw2; clear hw
      have HC : Hid (unres s[k].toNat = false → E ≠ s) := HN.out k hlt
      have HE : Hid (unres s[k].toNat = true → ∀ j (hj : j < s.size), j < k + 1 → unres s[j].toNat = true) := by
        intro h j hj hjk
        by_cases hjk2 : j < k
        · exact HA.out j hj hjk2
        · have : j = k := by omega
          subst this; exact h
      generalize unres s[k].toNat = u at HC HE ⊢
      cases u with
      | true =>
        have HA2 := HE.out rfl
        have HA3 : Hid (∀ j (hj : j < s.size), j < k + 1 → unres s[j].toNat = true) := HA2
        clear HA2
        go_wp2_with fail
        go_round
        case rel => exact ⟨k + 1, by omega, rfl, by go_num, HA3⟩
        case measure => simp [intOf]; omega
      | false =>
        have hne : (E.toList == s.toList) = false := bytes_no (HC.out rfl)
        clear HC HE
        go_wp2
        go_ret
        exact ⟨ret_bool (by simp; try omega), HL.out⟩
    · have heq : E = s := HY.out (fun j hj => HA.out j hj (by omega))
      go_wp2
      go_ret
      exact ⟨rfl, HL.out⟩

set_option maxHeartbeats 400000 in
theorem fix_big (s : ByteArray) (w : World) (h0 : s.size < 9223372036854775808) (hs : ¬ s.size ≤ 1048576) :
    Calls Try.prog 5 #[.string s] w fun e w' => e = .returned (.bool true) ∧ Below w.heap.size w w' := by
  have HD : Hid (decide (s.size ≤ 1048576) = false) := decide_eq_false hs
  go_enter Try.func5, Try.ntmps5
  go_wp2_with fail
  refine (zzBytes14_any _ _ h0).mono ?_
  rintro e w' ⟨rfl, hw⟩; have hw2 := hw.symm; subst hw2; clear hw
  rw [HD.out]; clear HD
  go_wp2
  go_ret
  exact ⟨rfl, Below.refl _ _⟩

theorem fix_any (s : ByteArray) (w : World) (h0 : s.size ≤ maxLen) :
    Calls Try.prog 5 #[.string s] w fun e w' => e = .returned (.bool true) ∧ Below w.heap.size w w' := by
  by_cases hs : s.size ≤ 1048576
  · exact fix_small s w hs
  · exact fix_big s w (by unfold maxLen at h0; omega) hs

end Go.Proofs.Qxb6000859a
