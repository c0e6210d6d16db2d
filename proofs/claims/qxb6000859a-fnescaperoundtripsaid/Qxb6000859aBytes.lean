/-
  WALKS for seat b6000859a: isUnreserved, upperHexValue, zzBytes.
-/
import Derived.Test.Qxb6000859aBuild
import Derived.Test.Qxb6000859aPlain
namespace Go.Proofs.Qxb6000859a
open Go.RowKit
theorem ret_bool {a b : Bool} (h : a = b) : Ending.returned (.bool a) = .returned (.bool b) := by rw [h]
set_option maxHeartbeats 1000000 in
theorem isUnreserved_any (n : Nat) (w : World) :
    Calls Try.prog 15 #[.int .u8 n] w fun e w' => e = .returned (.bool (unres n)) ∧ w' = w := by
  go_enter Try.func15, Try.ntmps15
  go_wp2
  all_goals
    go_ret
    exact ⟨ret_bool (Bool.eq_iff_iff.2 (by simp [unres]; try omega)), rfl⟩
set_option maxHeartbeats 400000 in
theorem upperHex_any (n : Nat) (w : World) (hn : n < 16) :
    Calls Try.prog 22 #[.int .u8 (hex n).toNat] w fun e w' => e = .returned (.tuple #[.int .i64 n, .bool true]) ∧ w' = w := by
  by_cases h : n < 10
  · have h1 : Hid ((hex n).toNat = 48 + n) := hex_ten h
    rw [h1.out]
    go_enter Try.func22, Try.ntmps22
    go_wp2
    all_goals (go_ret2; simp; try omega)
  · have h1 : Hid ((hex n).toNat = 55 + n) := hex_more (by omega) hn
    rw [h1.out]
    go_enter Try.func22, Try.ntmps22
    go_wp2
    all_goals (go_ret2; simp; try omega)

set_option maxHeartbeats 400000 in
theorem zzBytes14_any (s : ByteArray) (w : World) (h0 : s.size < 9223372036854775808) :
    Calls Try.prog 14 #[.string s] w fun e w' => e = .returned (.bool (decide (s.size ≤ 1048576))) ∧ w' = w := by
  by_cases h : s.size ≤ 1048576
  · have HD : Hid (decide (s.size ≤ 1048576) = true) := decide_eq_true h
    go_enter Try.func14, Try.ntmps14
    go_wp2
    all_goals (go_ret; exact ⟨ret_bool HD.out.symm, rfl⟩)
  · have HD : Hid (decide (s.size ≤ 1048576) = false) := decide_eq_false h
    go_enter Try.func14, Try.ntmps14
    go_wp2
    all_goals (go_ret; exact ⟨ret_bool HD.out.symm, rfl⟩)
set_option maxHeartbeats 400000 in
theorem zzBytes10_any (s : ByteArray) (w : World) (h0 : s.size < 9223372036854775808) :
    Calls Try.prog 10 #[.string s] w fun e w' => e = .returned (.bool (decide (s.size ≤ 1048576))) ∧ w' = w := by
  by_cases h : s.size ≤ 1048576
  · have HD : Hid (decide (s.size ≤ 1048576) = true) := decide_eq_true h
    go_enter Try.func10, Try.ntmps10
    go_wp2
    all_goals (go_ret; exact ⟨ret_bool HD.out.symm, rfl⟩)
  · have HD : Hid (decide (s.size ≤ 1048576) = false) := decide_eq_false h
    go_enter Try.func10, Try.ntmps10
    go_wp2
    all_goals (go_ret; exact ⟨ret_bool HD.out.symm, rfl⟩)

end Go.Proofs.Qxb6000859a
