/-
  WALKS for seat b6000755a: strings.IndexByte, stringLen, ZZStringLen.
-/
import Derived.Test.Qxb6000755aRows
import Derived.Test.Qxb6000755aPlain
import Derived.WalkKit
import Derived.WalkSpells
namespace Go.Proofs.Qxb6000755a
open Go.RowKit

theorem lite_any (s : ByteArray) (c : Int) (w : World) :
    Calls Try.prog 29 #[.string s, .int .u8 c] w fun e w' => e = .returned (.int .i64 (Lib.indexByte s.data.toList c.toNat.toUInt8)) ∧ w' = w := by
  go_enter Try.func29, Try.ntmps29
  go_wp2
  rw [run_callFunc_extern Try.func33 (by kernel_rfl) (by kernel_rfl) (by kernel_rfl) (e := Extern.BytealgIndexByte.indexByte) (by kernel_rfl), Lib.run_indexByteString]
  simp only [Result.andThen]
  rw [Oper.upon_value]
  go_wp2
  go_ret
  exact ⟨rfl, rfl⟩

theorem indexByte_any (s : ByteArray) (c : Int) (w : World) :
    Calls Try.prog 26 #[.string s, .int .u8 c] w fun e w' => e = .returned (.int .i64 (Lib.indexByte s.data.toList c.toNat.toUInt8)) ∧ w' = w := by
  go_enter Try.func26, Try.ntmps26
  go_wp2_with (go_at_call 29; refine (lite_any _ _ _).mono ?_; rintro e w' ⟨rfl, rfl⟩)
  go_ret
  exact ⟨rfl, rfl⟩

theorem len_data (s : ByteArray) : s.data.toList.length = s.size := Array.length_toList
theorem tail_data (s : ByteArray) : (s.extract 1 s.size).data.toList = s.data.toList.tail := by
  rw [Lib.extract_data]
  rw [List.drop_one, List.take_of_length_le]
  rw [List.length_tail, len_data]
  omega

theorem at_data (s : ByteArray) (k : Nat) (h : k < s.size) : s.data.toList[k]'(by rw [len_data]; exact h) = s[k] := rfl
theorem byte_yes {c : UInt8} {n : Nat} (h : ((c.toNat : Int) == (n : Int)) = true) : c = UInt8.ofNat n := by
  have h2 : (c.toNat : Int) = (n : Int) := by simpa using h
  have h3 : c.toNat = n := by omega
  rw [← h3]; simp
theorem byte_no {c : UInt8} {n : Nat} (hn : n < 256) (h : ((c.toNat : Int) == (n : Int)) = false) : c ≠ UInt8.ofNat n := by
  intro e
  have h2 : c.toNat = n := by rw [e]; simp; omega
  rw [h2] at h; simp at h

theorem headD_at (l : List UInt8) (h : 0 < l.length) : l.headD 0 = l[0] := by
  cases l with
  | nil => simp at h
  | cons x t => simp

theorem head_data (s : ByteArray) (h : 0 < s.size) : s.data.toList.headD 0 = s[0] := by
  rw [← at_data s 0 h]
  exact headD_at _ _

theorem ret_int {k : IntKind} {a b : Int} (h : a = b) : Ending.returned (.int k a) = .returned (.int k b) := by rw [h]

set_option maxHeartbeats 400000 in
theorem stringLen_raw (s : ByteArray) (w : World) (hs : s.size ≤ 4194304) (h0 : 0 < s.size) (hq : ((s[0].toNat : Int) == 96) = true) :
    Calls Try.prog 23 #[.string s] w fun e w' => e = .returned (.int .i64 (Plain.strLen s.data.toList)) ∧ w' = w := by
  have hh : s.data.toList.headD 0 = 96 := by rw [head_data s h0]; exact byte_yes (n := 96) hq
  have hl : Lib.indexByte s.data.toList.tail 96 ≤ s.size := by
    have h1 := Plain.ix_le s.data.toList.tail
    have h2 := len_data s
    simp at h1
    simp at h2
    omega
  have hg := Plain.ix_ge s.data.toList.tail
  have HF : Hid (Plain.strLen s.data.toList = if Lib.indexByte s.data.toList.tail 96 = -1 then -1 else Lib.indexByte s.data.toList.tail 96 + 2) := by
    unfold Plain.strLen; rw [if_pos hh]; exact rfl
  clear hh
  go_enter Try.func23, Try.ntmps23
  go_wp2_with fail
  refine (indexByte_any _ _ _).mono ?_
  rintro e w' ⟨rfl, rfl⟩
  rw [tail_data]
  rw [show Int.toNat 96 = 96 from rfl, show Nat.toUInt8 96 = 96 from rfl]
  generalize Lib.indexByte s.data.toList.tail 96 = n at hl hg HF ⊢
  by_cases hn : 0 ≤ n
  · go_wp2
    go_ret
    exact ⟨ret_int (by rw [HF.out, if_neg (by omega)]), rfl⟩
  · go_wp2
    go_ret
    exact ⟨ret_int (by rw [HF.out, if_pos (by omega)]), rfl⟩

set_option maxHeartbeats 400000 in
theorem stringLen_interp (s : ByteArray) (w : World) (hs : s.size ≤ 4194304) (h0 : 0 < s.size) (hq : ((s[0].toNat : Int) == 96) = false) :
    Calls Try.prog 23 #[.string s] w fun e w' => e = .returned (.int .i64 (Plain.strLen s.data.toList)) ∧ w' = w := by
  have hh : s.data.toList.headD 0 ≠ 96 := by rw [head_data s h0]; exact byte_no (n := 96) (by omega) hq
  have HF : Hid (Plain.strLen s.data.toList = Plain.qLen 1 s.data.toList) := by
    unfold Plain.strLen; rw [if_neg hh]; exact rfl
  clear hh
  go_enter Try.func23, Try.ntmps23
  go_wp2
  go_loop [4] (fun i => ∃ k : Nat, 1 ≤ k ∧ k ≤ s.size + 1 ∧ i = .int .i64 k ∧ Hid (Plain.qLen k s.data.toList = Plain.qLen 1 s.data.toList)) (fun i => s.size + 1 - (intOf i).toNat)
  case atStart => exact ⟨1, by omega, by omega, rfl, rfl⟩
  case round =>
    obtain ⟨k, hk1, hk, rfl, hrel⟩ := hrel
    by_cases hlt : k < s.size
    · go_wp2
      · have ht : ((s[k].toNat : Int) == 92) = true := by assumption
        have e := Plain.q_bs (l := s.data.toList) (i := k) (by rw [len_data]; exact hlt) (by rw [at_data s k hlt]; exact byte_yes (n := 92) ht)
        go_round
        case rel => exact ⟨k + 2, by omega, by omega, by go_num, e.symm.trans hrel.out⟩
        case measure => simp [intOf]; omega
      · have ht : ((s[k].toNat : Int) == 34) = true := by assumption
        have e := Plain.q_quote (l := s.data.toList) (i := k) (by rw [len_data]; exact hlt) (by rw [at_data s k hlt]; exact byte_yes (n := 34) ht)
        go_ret
        exact ⟨ret_int (by rw [HF.out, ← hrel.out, e]), rfl⟩
      · have h1 : ((s[k].toNat : Int) == 92) = false := by assumption
        have h2 : ((s[k].toNat : Int) == 34) = false := by assumption
        have e := Plain.q_plain (l := s.data.toList) (i := k) (by rw [len_data]; exact hlt) (by rw [at_data s k hlt]; exact byte_no (n := 92) (by omega) h1) (by rw [at_data s k hlt]; exact byte_no (n := 34) (by omega) h2)
        go_round
        case rel => exact ⟨k + 1, by omega, by omega, by go_num, e.symm.trans hrel.out⟩
        case measure => simp [intOf]; omega
    · have e := Plain.q_end (l := s.data.toList) (i := k) (by rw [len_data]; omega)
      have HE : Hid (Plain.strLen s.data.toList = -1) := HF.out.trans (hrel.out.symm.trans e)
      clear e hrel HF
      go_wp2
      go_ret
      exact ⟨ret_int HE.out.symm, rfl⟩

theorem stringLen_any (s : ByteArray) (w : World) (hs : s.size ≤ 4194304) (h0 : 0 < s.size) :
    Calls Try.prog 23 #[.string s] w fun e w' => e = .returned (.int .i64 (Plain.strLen s.data.toList)) ∧ w' = w := by
  cases hq : ((s[0].toNat : Int) == 96) with
  | true => exact stringLen_raw s w hs h0 hq
  | false => exact stringLen_interp s w hs h0 hq

theorem zzStringLen_any (s : ByteArray) (w : World) (hs : s.size ≤ 4194304) (h0 : 0 < s.size) :
    Calls Try.prog 15 #[.string s] w fun e w' => e = .returned (.int .i64 (Plain.strLen s.data.toList)) ∧ w' = w := by
  go_enter Try.func15, Try.ntmps15
  go_wp2_with (go_at_call 23; refine (stringLen_any _ _ hs h0).mono ?_; rintro e w' ⟨rfl, rfl⟩)
  go_ret
  exact ⟨rfl, rfl⟩

end Go.Proofs.Qxb6000755a
