/-
  WALKS for seat b6000859a: escape, ZZescape.
-/
import Derived.Test.Qxb6000859aBuild
import Derived.Test.Qxb6000859aPlain
namespace Go.Proofs.Qxb6000859a
open Go.RowKit

theorem len_data (s : ByteArray) : s.data.toList.length = s.size := Array.length_toList
theorem at_data (s : ByteArray) (k : Nat) (h : k < s.size) : s.data.toList[k]'(by rw [len_data]; exact h) = s[k] := rfl

theorem hexAt (i : Nat) (h : i < (ByteArray.mk #[48, 49, 50, 51, 52, 53, 54, 55, 56, 57, 65, 66, 67, 68, 69, 70]).size) : (ByteArray.mk #[48, 49, 50, 51, 52, 53, 54, 55, 56, 57, 65, 66, 67, 68, 69, 70])[i] = hex i := by
  unfold hex Array.getD
  have h2 : i < (#[48, 49, 50, 51, 52, 53, 54, 55, 56, 57, 65, 66, 67, 68, 69, 70] : Array UInt8).size := h
  rw [dif_pos h2]
  rfl

theorem room (l : List UInt8) (k : Nat) (h : l.length ≤ 1048576) : (Lib.byteCells (esc (l.take k))).length ≤ 3145728 := by
  rw [Lib.byteCells_length]
  have h1 := (esc_len (l.take k)).2.1
  have h2 : (l.take k).length ≤ l.length := by rw [List.length_take]; omega
  omega

theorem step_yes (s : ByteArray) (k : Nat) (h : k < s.size) (hc : unres s[k].toNat = true) : Lib.byteCells (esc (s.data.toList.take k)) ++ [.int .u8 (s[k].toNat : Int)] = Lib.byteCells (esc (s.data.toList.take (k + 1))) := by
  rw [esc_take _ k (by rw [len_data]; exact h), at_data s k h, enc_yes hc, Lib.byteCells_append]
  rfl
theorem step_no (s : ByteArray) (k : Nat) (h : k < s.size) (hc : unres s[k].toNat = false) : Lib.byteCells (esc (s.data.toList.take k)) ++ [.int .u8 37] ++ [.int .u8 ((hex (s[k].toNat / 16)).toNat : Int)] ++ [.int .u8 ((hex (s[k].toNat % 16)).toNat : Int)] = Lib.byteCells (esc (s.data.toList.take (k + 1))) := by
  rw [esc_take _ k (by rw [len_data]; exact h), at_data s k h, enc_no hc, Lib.byteCells_append]
  simp [Lib.byteCells]

theorem cls (n : Nat) : ((97 : Int) ≤ (n : Int) ∧ (n : Int) ≤ 122) ∨ ((65 : Int) ≤ (n : Int) ∧ (n : Int) ≤ 90) ∨ ((48 : Int) ≤ (n : Int) ∧ (n : Int) ≤ 57) ∨ ((0 : Int) ≤ (n : Int) ∧ (n : Int) < 48) ∨ ((58 : Int) ≤ (n : Int) ∧ (n : Int) < 65) ∨ ((91 : Int) ≤ (n : Int) ∧ (n : Int) < 97) ∨ ((123 : Int) ≤ (n : Int) ∧ (0 : Int) ≤ (n : Int)) := by omega

theorem unres_range {n : Nat} (h : (65 ≤ n ∧ n ≤ 90) ∨ (97 ≤ n ∧ n ≤ 122) ∨ (48 ≤ n ∧ n ≤ 57)) : unres n = true := by
  simp [unres]; omega

set_option maxHeartbeats 2000000 in
theorem escape_any (s : ByteArray) (w : World) (hs : s.size ≤ 1048576) :
    Calls Try.prog 21 #[.string s] w fun e w' => e = .returned (.string ⟨(esc s.data.toList).toArray⟩) ∧ Below w.heap.size w w' := by
  have HR : Hid (∀ k, (Lib.byteCells (esc (s.data.toList.take k))).length ≤ 3145728) := fun k => room _ k (by rw [len_data]; exact hs)
  go_enter Try.func21, Try.ntmps21
  go_wp2
  go_loopw [4] (fun i wr => ∃ k : Nat, k ≤ s.size ∧ i = .int .i64 k ∧ Hid (Lib.IsBuilder 40 5 w.heap.size w.heap.size (Lib.byteCells (esc (s.data.toList.take k))) wr) ∧ Hid (Below w.heap.size w wr)) (fun i _ => s.size - (intOf i).toNat)
  case atStart =>
    refine ⟨0, Nat.zero_le _, rfl, Or.inl ⟨Nat.le_refl _, .slice none 0 0, ?_, ?_, ?_⟩, (Below.refl _ w).alloc (Nat.le_refl _) _⟩
    · exact Array.getElem?_push_size
    · exact ⟨rfl, Or.inl ⟨rfl, rfl⟩⟩
    · simp [Value.ownBlock]
  case round =>
    obtain ⟨k, hk, rfl, HB, HL⟩ := hrel
    have hz : w.heap.size ≤ wr.heap.size := HL.out.size
    by_cases hlt : k < s.size
    · have h2 : (s[k].toNat : Int) / 16 < 16 := by have := s[k].toNat_lt; omega
      have h3 : (s[k].toNat : Int) % 16 < 16 := by omega
      have h4 : (0 : Int) ≤ (s[k].toNat : Int) / 16 := by omega
      have h5 : (0 : Int) ≤ (s[k].toNat : Int) % 16 := by omega
      have HY : Hid (unres s[k].toNat = true → Lib.byteCells (esc (s.data.toList.take k)) ++ [.int .u8 (s[k].toNat : Int)] = Lib.byteCells (esc (s.data.toList.take (k + 1)))) := step_yes s k hlt
      have HN : Hid (unres s[k].toNat = false → Lib.byteCells (esc (s.data.toList.take k)) ++ [.int .u8 37] ++ [.int .u8 ((hex (s[k].toNat / 16)).toNat : Int)] ++ [.int .u8 ((hex (s[k].toNat % 16)).toNat : Int)] = Lib.byteCells (esc (s.data.toList.take (k + 1)))) := step_no s k hlt
      rcases cls s[k].toNat with ⟨h0, h1⟩ | ⟨h0, h1⟩ | ⟨h0, h1⟩ | ⟨h0, h1⟩ | ⟨h0, h1⟩ | ⟨h0, h1⟩ | ⟨h0, h1⟩
      · have HU : Hid (unres s[k].toNat = true) := unres_range (by omega)
        go_wp2_with fail
        refine (writeByte_any w.heap.size w.heap.size _ _ _ HB.out (by have := HR.out k; omega) hz).mono ?_
        rintro e w' ⟨rfl, hB2, hb2⟩
        have HB2 : Hid (Lib.IsBuilder 40 5 w.heap.size w.heap.size (Lib.byteCells (esc (s.data.toList.take (k + 1)))) w') := by
          rw [← HY.out HU.out]; exact Or.inr hB2
        have HL2 : Hid (Below w.heap.size w w') := HL.out.trans hb2
        clear hB2 hb2
        go_wp2_with fail
        go_roundw
        case rel => exact ⟨k + 1, by omega, by go_num, HB2, HL2⟩
        case measure => simp [intOf]; omega
      · have HU : Hid (unres s[k].toNat = true) := unres_range (by omega)
        go_wp2_with fail
        refine (writeByte_any w.heap.size w.heap.size _ _ _ HB.out (by have := HR.out k; omega) hz).mono ?_
        rintro e w' ⟨rfl, hB2, hb2⟩
        have HB2 : Hid (Lib.IsBuilder 40 5 w.heap.size w.heap.size (Lib.byteCells (esc (s.data.toList.take (k + 1)))) w') := by
          rw [← HY.out HU.out]; exact Or.inr hB2
        have HL2 : Hid (Below w.heap.size w w') := HL.out.trans hb2
        clear hB2 hb2
        go_wp2_with fail
        go_roundw
        case rel => exact ⟨k + 1, by omega, by go_num, HB2, HL2⟩
        case measure => simp [intOf]; omega
      · have HU : Hid (unres s[k].toNat = true) := unres_range (by omega)
        go_wp2_with fail
        refine (writeByte_any w.heap.size w.heap.size _ _ _ HB.out (by have := HR.out k; omega) hz).mono ?_
        rintro e w' ⟨rfl, hB2, hb2⟩
        have HB2 : Hid (Lib.IsBuilder 40 5 w.heap.size w.heap.size (Lib.byteCells (esc (s.data.toList.take (k + 1)))) w') := by
          rw [← HY.out HU.out]; exact Or.inr hB2
        have HL2 : Hid (Below w.heap.size w w') := HL.out.trans hb2
        clear hB2 hb2
        go_wp2_with fail
        go_roundw
        case rel => exact ⟨k + 1, by omega, by go_num, HB2, HL2⟩
        case measure => simp [intOf]; omega
      all_goals
        have HI1 : Hid (0 ≤ Lib.indexByte [45, 46, 95, 126, 64] s[k] → unres s[k].toNat = true) := index_yes
        have HI2 : Hid (Lib.indexByte [45, 46, 95, 126, 64] s[k] < 0 → unres s[k].toNat = false) := fun h => index_no h (by omega) (by omega) (by omega)
        go_wp2_with fail
        refine (Try.strings_IndexByte _ _ _).mono ?_
        rintro e w' ⟨rfl, hw⟩; have hw2 := hw.symm; subst hw2; clear hw
        rw [show ((s[k].toNat : Int)).toNat.toUInt8 = s[k] from by simp]
        have hg := Lib.indexByte_ge [45, 46, 95, 126, 64] s[k]
        dsimp only
        generalize Lib.indexByte [45, 46, 95, 126, 64] s[k] = n at hg HI1 HI2 ⊢
        by_cases hn : 0 ≤ n
        · have HU : Hid (unres s[k].toNat = true) := HI1.out hn
          go_wp2_with fail
          refine (writeByte_any w.heap.size w.heap.size _ _ _ HB.out (by have := HR.out k; omega) hz).mono ?_
          rintro e w' ⟨rfl, hB2, hb2⟩
          have HB2 : Hid (Lib.IsBuilder 40 5 w.heap.size w.heap.size (Lib.byteCells (esc (s.data.toList.take (k + 1)))) w') := by
            rw [← HY.out HU.out]; exact Or.inr hB2
          have HL2 : Hid (Below w.heap.size w w') := HL.out.trans hb2
          clear hB2 hb2
          go_wp2_with fail
          go_roundw
          case rel => exact ⟨k + 1, by omega, by go_num, HB2, HL2⟩
          case measure => simp [intOf]; omega
        · have HU : Hid (unres s[k].toNat = false) := HI2.out (by omega)
          go_wp2_with fail
          refine (writeByte_any w.heap.size w.heap.size _ _ _ HB.out (by have := HR.out k; omega) hz).mono ?_
          rintro e w1 ⟨rfl, hB2, hb2⟩
          have hz1 : w.heap.size ≤ w1.heap.size := Nat.le_trans hz hb2.size
          go_wp2_with fail
          refine (writeByte_any w.heap.size w.heap.size _ _ _ (.inr hB2) (by have := HR.out k; simp only [List.length_append, List.length_cons, List.length_nil]; omega) hz1).mono ?_
          rintro e w2 ⟨rfl, hB3, hb3⟩
          have hz2 : w.heap.size ≤ w2.heap.size := Nat.le_trans hz1 hb3.size
          go_wp2_with fail
          refine (writeByte_any w.heap.size w.heap.size _ _ _ (.inr hB3) (by have := HR.out k; simp only [List.length_append, List.length_cons, List.length_nil]; omega) hz2).mono ?_
          rintro e w' ⟨rfl, hB4, hb4⟩
          have HB2 : Hid (Lib.IsBuilder 40 5 w.heap.size w.heap.size (Lib.byteCells (esc (s.data.toList.take (k + 1)))) w') := by
            rw [← HN.out HU.out, ← hexAt (s[k].toNat / 16) (by have := s[k].toNat_lt; show _ < 16; omega), ← hexAt (s[k].toNat % 16) (by show _ < 16; omega)]
            exact Or.inr hB4
          have HL2 : Hid (Below w.heap.size w w') := ((HL.out.trans hb2).trans hb3).trans hb4
          clear hB2 hb2 hB3 hb3 hB4 hb4
          go_wp2_with fail
          go_roundw
          case rel => exact ⟨k + 1, by omega, by go_num, HB2, HL2⟩
          case measure => simp [intOf]; omega
    · have hke : s.data.toList.take k = s.data.toList := List.take_of_length_le (by rw [len_data]; omega)
      rw [hke] at HB
      clear hke
      go_wp2_with fail
      refine (Try.Builder_String_any w.heap.size w.heap.size _ _ HB.out hz).mono ?_
      rintro e w' ⟨rfl, hb2⟩
      have HL2 : Hid (Below w.heap.size w w') := HL.out.trans hb2
      clear hb2
      go_wp2_with fail
      go_ret
      exact ⟨rfl, HL2.out⟩

theorem zzEscape_any (s : ByteArray) (w : World) (hs : s.size ≤ 1048576) :
    Calls Try.prog 11 #[.string s] w fun e w' => e = .returned (.string ⟨(esc s.data.toList).toArray⟩) ∧ Below w.heap.size w w' := by
  go_enter Try.func11, Try.ntmps11
  go_wp2_with fail
  refine (escape_any s _ hs).mono ?_
  rintro e w' ⟨rfl, hb⟩
  have HL : Hid (Below w.heap.size w w') := hb
  clear hb
  go_wp2_with fail
  go_ret
  exact ⟨rfl, HL.out⟩

end Go.Proofs.Qxb6000859a
