/-
  WALKS of the laws' own helpers (seat b6600245a): zzMarkerLine, zzEq.
-/
import Derived.Test.Qxb6600245aMem
namespace Go.Proofs.Qxb6600245a
open Go.RowKit

theorem seg_len (l : List UInt8) (p e : Nat) (he : e ≤ l.length) : ((l.take e).drop p).length = e - p := by simp; omega
theorem seg_at (l : List UInt8) (p e k : Nat) (he : e ≤ l.length) (hk : p + k < e) : ((l.take e).drop p)[k]'(by rw [seg_len l p e he]; omega) = l[p + k] := by simp
theorem seg_three (l : List UInt8) (p e : Nat) (he : e ≤ l.length) (h3 : 3 ≤ e - p) : ((l.take e).drop p).take 3 = [l[p]'(by omega), l[p + 1]'(by omega), l[p + 2]'(by omega)] := by
  have hl := seg_len l p e he
  have e0 := seg_at l p e 0 he (by omega)
  have e1 := seg_at l p e 1 he (by omega)
  have e2 := seg_at l p e 2 he (by omega)
  match hx : (l.take e).drop p, hl with
  | [], hl => simp at hl; omega
  | [_], hl => simp at hl; omega
  | [_, _], hl => simp at hl; omega
  | a :: b :: c :: r, hl =>
    simp only [hx] at e0 e1 e2
    simp at e0 e1 e2
    simp [e0, e1, e2]

theorem ne_byte (c d : UInt8) : ((c.toNat : Int) != (d.toNat : Int)) = !(c == d) := by
  cases h : (c == d) with
  | true => have : c = d := by simpa using h
            subst this; simp
  | false =>
    have : c ≠ d := by simpa using h
    simp
    intro e
    exact this (UInt8.toNat_inj.1 (by omega))

set_option maxHeartbeats 1000000 in
theorem markerLine_any (d : UInt8) (D : Int) (hD : (d.toNat : Int) = D) (b off n c p e : Nat) (l : List UInt8) (w : World) (hl : l.length = n) (hn : n ≤ 65536) (hp : p ≤ e) (he : e ≤ n) (h : At w b off l) :
    Calls Try.prog 12 #[.slice (some ⟨b, off, none⟩) n c, .int .i64 (p : Int), .int .i64 (e : Int), .int .u8 D] w fun r w' => r = .returned (.bool (Plain.isM d ((l.take e).drop p))) ∧ w' = w := by
  by_cases h3 : e - p < 3
  · rw [isM_short (by rw [seg_len l p e (by omega)]; exact h3)]
    have hlt : (e : Int) - (p : Int) < 3 := by omega
    clear h hl
    go_enter Try.func12, Try.ntmps12
    go_wp2
    go_ret
    exact ⟨rfl, rfl⟩
  · have hge : ¬ (e : Int) - (p : Int) < 3 := by omega
    have hp3 : p + 2 < l.length := by omega
    have k0 := h p (by omega)
    have k1 := h (p + 1) (by omega)
    have k2 := h (p + 2) (by omega)
    have hs := seg_three l p e (by omega) (by omega)
    have q0 := ne_byte l[p] d
    have q1 := ne_byte l[p + 1] d
    have q2 := ne_byte l[p + 2] d
    have HS : Hid (((l.take e).drop p).take 3 = [l[p], l[p + 1], l[p + 2]]) := hs
    rw [hD] at q0 q1 q2
    have HA : Hid (At w b off l) := h
    have HL : Hid (l.length = n) := hl
    clear hs h
    cases b0 : (l[p] == d) with
    | false =>
      rw [isM_no (by rw [HS.out]; simp at b0; simp [b0])]
      rw [b0] at q0
      clear b0 q1 q2 k1 k2
      go_enter Try.func12, Try.ntmps12
      go_wp2
      go_ret
      exact ⟨rfl, rfl⟩
    | true =>
      cases b1 : (l[p + 1] == d) with
      | false =>
        rw [isM_no (by rw [HS.out]; simp at b1; simp [b1])]
        rw [b0] at q0
        rw [b1] at q1
        clear b0 b1 q2 k2
        go_enter Try.func12, Try.ntmps12
        go_wp2
        go_ret
        exact ⟨rfl, rfl⟩
      | true =>
        cases b2 : (l[p + 2] == d) with
        | false =>
          rw [isM_no (by rw [HS.out]; simp at b2; simp [b2])]
          rw [b0] at q0
          rw [b1] at q1
          rw [b2] at q2
          clear b0 b1 b2
          go_enter Try.func12, Try.ntmps12
          go_wp2
          go_ret
          exact ⟨rfl, rfl⟩
        | true =>
          have ht : (((l.take e).drop p).take 3 == [d, d, d]) = true := by rw [HS.out]; simp at b0 b1 b2; simp [b0, b1, b2]
          rw [b0] at q0
          rw [b1] at q1
          rw [b2] at q2
          clear b0 b1 b2
          by_cases h4 : e - p = 3
          · rw [isM_three ht (by rw [seg_len l p e (by omega)]; exact h4)]
            have hq : ((e : Int) - (p : Int) == 3) = true := beq_iff_eq.2 (by omega)
            clear ht
            go_enter Try.func12, Try.ntmps12
            go_wp2
            go_ret
            exact ⟨rfl, rfl⟩
          · have h5 : p + 3 < l.length := by omega
            rw [isM_more ht (by rw [seg_len l p e (by omega)]; omega), seg_at l p e 3 (by omega) (by omega)]
            have hq : ((e : Int) - (p : Int) == 3) = false := beq_eq_false_iff_ne.2 (by omega)
            have k3 := HA.out (p + 3) h5
            clear ht
            go_enter Try.func12, Try.ntmps12
            go_wp2_with (go_at_call 19; refine (blank_any _ _).mono ?_; rintro e w' ⟨rfl, rfl⟩)
            go_ret
            exact ⟨rfl, rfl⟩

theorem eq_empty (a a2 : Option Addr) (c c2 : Nat) (w : World) :
    Calls Try.prog 13 #[.slice a 0 c, .slice a2 0 c2] w fun e w' => e = .returned (.bool true) ∧ ∃ nq, w' = w.drewN nq := by
  go_enter Try.func13, Try.ntmps13
  go_wp2
  refine wp_loop_rounds 1 ?_
  rw [rounds_succ]
  go_wp2
  go_ret
  exact ⟨rfl, 0, rfl⟩

set_option maxHeartbeats 400000 in
theorem eq_some (b off c b2 off2 c2 n : Nat) (l : List UInt8) (w : World) (hl : l.length = n) (hn : n ≤ 1048576) (h : At w b off l) (h2 : At w b2 off2 l) :
    Calls Try.prog 13 #[.slice (some ⟨b, off, none⟩) n c, .slice (some ⟨b2, off2, none⟩) n c2] w fun e w' => e = .returned (.bool true) ∧ ∃ nq, w' = w.drewN nq := by
  have hz : ((n : Int) != (n : Int)) = false := by simp
  have HA : Hid (At w b off l) := h
  have HA2 : Hid (At w b2 off2 l) := h2
  have HL : Hid (l.length = n) := hl
  clear h h2 hl
  go_enter Try.func13, Try.ntmps13
  go_wp2
  go_loopw [5] (fun i wr => ∃ k : Nat, k ≤ n ∧ i = .int .i64 k ∧ Hid (∃ nq, wr = w.drewN nq)) (fun i _ => n - (intOf i).toNat)
  case atStart => exact ⟨0, Nat.zero_le _, rfl, 0, rfl⟩
  case round =>
    obtain ⟨k, hk, rfl, HW⟩ := hrel
    obtain ⟨nq, rfl⟩ := HW.out
    clear HW
    by_cases hlt : k < n
    · have hkl : k < l.length := by have := HL.out; omega
      have k0 := HA.out k hkl
      have k1 := HA2.out k hkl
      have hkz : (k : Int) < (n : Int) := by omega
      have hq : ((l[k].toNat : Int) != (l[k].toNat : Int)) = false := by simp
      go_wp2
      go_quiet (fail)
      go_wp2
      go_roundw
      case rel => exact ⟨k + 1, by omega, by go_num, by show ∃ x, _; exact ⟨_, rfl⟩⟩
      case measure => simp [intOf]; omega
    · go_wp2
      go_ret
      exact ⟨rfl, nq, rfl⟩

/-- zzEq at two slices that read alike. -/
theorem eq_any (a a2 : Option Addr) (c c2 n m : Nat) (l : List UInt8) (w : World) (hn : n ≤ 1048576) (h : RB w a n l) (h2 : RB w a2 m l) :
    Calls Try.prog 13 #[.slice a n c, .slice a2 m c2] w fun e w' => e = .returned (.bool true) ∧ ∃ nq, w' = w.drewN nq := by
  obtain rfl : n = m := by rw [← h.1, ← h2.1]
  by_cases h0 : n = 0
  · subst h0; exact eq_empty a a2 c c2 w
  · obtain ⟨b, off, rfl, hat⟩ := h.pos (by omega)
    obtain ⟨b2, off2, rfl, hat2⟩ := h2.pos (by omega)
    exact eq_some b off c b2 off2 c2 n l w h.1 hn hat hat2

end Go.Proofs.Qxb6600245a
