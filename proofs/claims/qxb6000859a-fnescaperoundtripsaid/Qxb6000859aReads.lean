/-
  THE PLAIN LAW for seat b6000859a, second part: what stands at each place of the escaped text.
-/
import Derived.Test.Qxb6000859aFixWalk
namespace Go.Proofs.Qxb6000859a
open Go.RowKit

theorem esc_split (l : List UInt8) (k : Nat) (h : k < l.length) : esc l = esc (l.take k) ++ (enc l[k] ++ esc (l.drop (k + 1))) := by
  conv => lhs; rw [← List.take_append_drop k l, List.drop_eq_getElem_cons h]
  rw [esc_append, esc]

theorem esc_at (l : List UInt8) (k j : Nat) (h : k < l.length) (hj : j < (enc l[k]).length) : (esc l)[(esc (l.take k)).length + j]? = some ((enc l[k])[j]) := by
  rw [esc_split l k h, List.getElem?_append_right (by omega), Nat.add_sub_cancel_left, List.getElem?_append_left hj, List.getElem?_eq_getElem hj]

theorem byte_at (l : List UInt8) (i : Nat) (c : UInt8) (h : l[i]? = some c) : ∃ hi : i < (ByteArray.mk l.toArray).size, (ByteArray.mk l.toArray)[i] = c := by
  obtain ⟨h1, h2⟩ := List.getElem?_eq_some_iff.1 h
  refine ⟨by rw [size_mk]; exact h1, ?_⟩
  rw [← at_data _ i (by rw [size_mk]; exact h1)]
  exact h2

/-- The place in the escaped text at which byte k of the text is written. -/
def place (s : ByteArray) (k : Nat) : Nat := (esc (s.data.toList.take k)).length

theorem place_zero (s : ByteArray) : place s 0 = 0 := by simp [place, esc]
theorem place_all (s : ByteArray) (k : Nat) (h : s.size ≤ k) : place s k = (ByteArray.mk (esc s.data.toList).toArray).size := by
  unfold place
  rw [size_mk, List.take_of_length_le (by rw [len_data]; exact h)]
theorem place_yes (s : ByteArray) (k : Nat) (h : k < s.size) (hc : unres s[k].toNat = true) : place s (k + 1) = place s k + 1 := by
  unfold place
  rw [esc_take _ k (by rw [len_data]; exact h), at_data s k h, enc_yes hc, List.length_append]
  rfl
theorem place_no (s : ByteArray) (k : Nat) (h : k < s.size) (hc : unres s[k].toNat = false) : place s (k + 1) = place s k + 3 := by
  unfold place
  rw [esc_take _ k (by rw [len_data]; exact h), at_data s k h, enc_no hc, List.length_append]
  rfl

theorem read_yes (s : ByteArray) (k : Nat) (h : k < s.size) (hc : unres s[k].toNat = true) :
    ∃ h0 : place s k < (ByteArray.mk (esc s.data.toList).toArray).size, (ByteArray.mk (esc s.data.toList).toArray)[place s k].toNat = s[k].toNat := by
  have hl : k < s.data.toList.length := by rw [len_data]; exact h
  have he : enc s.data.toList[k] = [s[k]] := by rw [at_data s k h, enc_yes hc]
  have h1 := esc_at s.data.toList k 0 hl (by rw [he]; simp)
  simp only [he] at h1
  obtain ⟨h0, e⟩ := byte_at _ _ _ h1
  exact ⟨h0, congrArg UInt8.toNat e⟩

theorem read_no (s : ByteArray) (k : Nat) (h : k < s.size) (hc : unres s[k].toNat = false) :
    ∃ hi lo : Nat, hi < 16 ∧ lo < 16 ∧ hi * 16 + lo = s[k].toNat ∧ ∃ (h0 : place s k < (ByteArray.mk (esc s.data.toList).toArray).size) (h1 : place s k + 1 < (ByteArray.mk (esc s.data.toList).toArray).size) (h2 : place s k + 2 < (ByteArray.mk (esc s.data.toList).toArray).size),
      (ByteArray.mk (esc s.data.toList).toArray)[place s k].toNat = 37 ∧ (ByteArray.mk (esc s.data.toList).toArray)[place s k + 1].toNat = (hex hi).toNat ∧ (ByteArray.mk (esc s.data.toList).toArray)[place s k + 2].toNat = (hex lo).toNat := by
  have hl : k < s.data.toList.length := by rw [len_data]; exact h
  have he : enc s.data.toList[k] = [37, hex (s[k].toNat / 16), hex (s[k].toNat % 16)] := by rw [at_data s k h, enc_no hc]
  have a0 := esc_at s.data.toList k 0 hl (by rw [he]; simp)
  have a1 := esc_at s.data.toList k 1 hl (by rw [he]; simp)
  have a2 := esc_at s.data.toList k 2 hl (by rw [he]; simp)
  simp only [he] at a0 a1 a2
  obtain ⟨b0, e0⟩ := byte_at _ _ _ a0
  obtain ⟨b1, e1⟩ := byte_at _ _ _ a1
  obtain ⟨b2, e2⟩ := byte_at _ _ _ a2
  have := s[k].toNat_lt
  exact ⟨s[k].toNat / 16, s[k].toNat % 16, by omega, by omega, by omega, b0, b1, b2, congrArg UInt8.toNat e0, congrArg UInt8.toNat e1, congrArg UInt8.toNat e2⟩

theorem not_percent {n : Nat} (h : unres n = true) : n ≠ 37 := by
  intro e; subst e; revert h; decide

theorem take_next (s : ByteArray) (k : Nat) (h : k < s.size) : Lib.byteCells (s.data.toList.take k) ++ [.int .u8 (s[k].toNat : Int)] = Lib.byteCells (s.data.toList.take (k + 1)) := by
  rw [List.take_add_one, List.getElem?_eq_getElem (by rw [len_data]; exact h), Lib.byteCells_append, at_data s k h]
  rfl

end Go.Proofs.Qxb6000859a
