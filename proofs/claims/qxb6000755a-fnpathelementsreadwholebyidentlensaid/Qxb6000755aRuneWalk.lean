/-
  WALKS for FnPathElementsReadWholeByIdentLen (seat b6000755a): pathRune at a byte.
-/
import Derived.Test.Qxb6000755aWalks
import Derived.Deep.QuietTactic
import Derived.BigQuiet
import Derived.WalkMore
namespace Go.Proofs.Qxb6000755a.Path
open Go.RowKit

/-- '-._~+' -/
def marks : ByteArray := ⟨#[45, 46, 95, 126, 43]⟩

theorem enc_two (r : Int) (h0 : 128 ≤ r) (h1 : r ≤ 255) : ∃ q : ByteArray, Utf8.encode r = q ∧ q.size = 2 ∧ ∀ h : 1 < q.size, 128 ≤ (q[1]'h).toNat := by
  have hv : Utf8.valid r = true := by unfold Utf8.valid; simp; omega
  have hc : ¬ r.toNat < 128 := by omega
  have hc2 : r.toNat < 2048 := by omega
  refine ⟨_, rfl, ?_⟩
  unfold Utf8.encode
  simp only [hv, if_true, hc, if_false, hc2]
  refine ⟨rfl, fun _ => ?_⟩
  show 128 ≤ (UInt8.ofNat (128 + r.toNat % 64)).toNat
  simp; omega

theorem valid_any (r : Int) (w : World) (h0 : 0 ≤ r) (h1 : r ≤ 255) :
    Calls Try.prog 30 #[.int .i32 r] w fun e w' => e = .returned (.bool true) ∧ w' = w := by
  go_enter Try.func30, Try.ntmps30
  go_wp2
  go_ret
  exact ⟨rfl, rfl⟩

set_option maxRecDepth 100000 in
theorem rune_ascii (r : Int) (w : World) (h0 : 0 ≤ r) (h1 : r < 128) :
    Calls Try.prog 27 #[.string marks, .int .i32 r] w fun e w' => e = .returned (.int .i64 (Lib.indexByte marks.data.toList r.toNat.toUInt8)) ∧ w' = w := by
  go_enter Try.func27, Try.ntmps27
  go_wp2_with (go_at_call 26; refine (indexByte_any _ _ _).mono ?_; rintro e w' ⟨rfl, rfl⟩)
  go_ret
  exact ⟨rfl, rfl⟩

theorem high_not (q : ByteArray) (h : 1 < q.size) (hb : 128 ≤ q[1].toNat) : Lib.indexByte (marks.extract 2 5).data.toList ((q[1].toNat : Nat) : Int).toNat.toUInt8 = -1 := by
  have e : (marks.extract 2 5).data.toList = [95, 126, 43] := rfl
  rw [e, Int.toNat_natCast]
  have e2 : q[1].toNat.toUInt8 = q[1] := by simp
  rw [e2]
  generalize q[1] = c at hb
  have n1 : ¬ (95 : UInt8) = c := fun g => by rw [← g] at hb; simp at hb
  have n2 : ¬ (126 : UInt8) = c := fun g => by rw [← g] at hb; simp at hb
  have n3 : ¬ (43 : UInt8) = c := fun g => by rw [← g] at hb; simp at hb
  simp [Lib.indexByte, n1, n2, n3]

theorem drews {w wq : World} {a b : Nat} (h : w.drewN a = wq) : ∃ n, wq.drewN b = w.drewN n := ⟨a + b, by rw [← h]; simp⟩

set_option maxHeartbeats 1000000 in
set_option maxRecDepth 100000 in
theorem rune_high (r : Int) (w : World) (h0 : 128 ≤ r) (h1 : r ≤ 255) :
    Calls Try.prog 27 #[.string marks, .int .i32 r] w fun e w' => e = .returned (.int .i64 (-1)) ∧ ∃ n, w' = w.drewN n := by
  obtain ⟨q, hq, hsz, hb⟩ := enc_two r h0 h1
  have h1q : 1 < q.size := by omega
  have hb1 := hb h1q
  clear hb
  have hms : marks.size = 5 := rfl
  have hm1 : marks[1].toNat = 46 := rfl
  go_enter Try.func27, Try.ntmps27
  go_wp2_with (go_at_call 30; refine (valid_any _ _ (by omega) h1).mono ?_; rintro e w' ⟨rfl, rfl⟩)
  go_step3
  go_wp2
  refine wp_loop_rounds 1 ?_
  rw [rounds_succ]
  go_wp2
  go_step3
  go_wp2
  go_quiet (fail)
  go_wp2
  have hwr : IntKind.i64.wrap 2 = 2 := by decide
  generalize hwq : w'.drewN nq = wq
  have HW : Hid (w'.drewN nq = wq) := hwq
  clear hwq
  go_quiet ((go_at_call 26; exact Calls.quiet_of_same (indexByte_any _ _ _)))
  rw [high_not q h1q hb1]
  go_wp2
  rw [Exit.noGoto_ret]
  go_wp2
  rw [Exit.noGoto_ret]
  go_wp2
  go_ret
  exact ⟨rfl, drews HW.out⟩

/-- A byte at which identLen does not stop, and no star. -/
def Good (r : Int) : Prop := r ≠ 32 ∧ r ≠ 9 ∧ r ≠ 13 ∧ r ≠ 40 ∧ r ≠ 41 ∧ r ≠ 42

/-- The call hands back a bool; true only at a good byte. -/
def RuneOk (r : Int) (e : Ending) : Prop := ∃ b, e = .returned (.bool b) ∧ (b = true → Good r)

theorem good_mark (r : Int) (h0 : 0 ≤ r) (h1 : r < 128) (h : 0 ≤ Lib.indexByte marks.data.toList r.toNat.toUInt8) : Good r := by
  obtain ⟨o, ho⟩ := Int.eq_ofNat_of_zero_le h
  have hm := List.mem_of_getElem? (Lib.indexByte_some ho).1
  have e : marks.data.toList = [45, 46, 95, 126, 43] := rfl
  rw [e] at hm
  have hr : r.toNat.toUInt8.toNat = r.toNat := by simp; omega
  generalize r.toNat.toUInt8 = c at hm hr
  unfold Good
  simp at hm
  rcases hm with g | g | g | g | g <;> (rw [g] at hr; simp at hr; omega)

theorem contains_any (r : Int) (w : World) (h0 : 0 ≤ r) (h1 : r ≤ 255) :
    Calls Try.prog 24 #[.string marks, .int .i32 r] w fun e w' => RuneOk r e ∧ ∃ n, w' = w.drewN n := by
  by_cases h : r < 128
  · go_enter Try.func24, Try.ntmps24
    go_wp2_with (go_at_call 27; refine (rune_ascii r _ h0 h).mono ?_; rintro e w' ⟨rfl, rfl⟩)
    go_ret
    exact ⟨⟨_, rfl, fun g => good_mark r h0 h (by simpa using g)⟩, 0, rfl⟩
  · go_enter Try.func24, Try.ntmps24
    go_wp2_with (go_at_call 27; refine (rune_high r _ (by omega) h1).mono ?_; rintro e w' ⟨rfl, n, rfl⟩)
    go_ret
    exact ⟨⟨_, rfl, fun g => by simp at g⟩, n, rfl⟩

theorem marks_eq : (⟨#[45, 46, 95, 126, 43]⟩ : ByteArray) = marks := rfl

theorem pathRune_any (r : Int) (w : World) (h0 : 0 ≤ r) (h1 : r ≤ 255) :
    Calls Try.prog 21 #[.int .i32 r] w fun e w' => RuneOk r e ∧ ∃ n, w' = w.drewN n := by
  by_cases g1 : 97 ≤ r ∧ r ≤ 122
  · obtain ⟨g1, g2⟩ := g1
    go_enter Try.func21, Try.ntmps21
    go_wp2
    go_ret
    exact ⟨⟨_, rfl, fun _ => ⟨by omega, by omega, by omega, by omega, by omega, by omega⟩⟩, 0, rfl⟩
  · by_cases g2 : 65 ≤ r ∧ r ≤ 90
    · obtain ⟨g2, g3⟩ := g2
      go_enter Try.func21, Try.ntmps21
      go_wp2
      go_ret
      exact ⟨⟨_, rfl, fun _ => ⟨by omega, by omega, by omega, by omega, by omega, by omega⟩⟩, 0, rfl⟩
    · by_cases g3 : 48 ≤ r ∧ r ≤ 57
      · obtain ⟨g3, g4⟩ := g3
        go_enter Try.func21, Try.ntmps21
        go_wp2
        go_ret
        exact ⟨⟨_, rfl, fun _ => ⟨by omega, by omega, by omega, by omega, by omega, by omega⟩⟩, 0, rfl⟩
      · go_enter Try.func21, Try.ntmps21
        go_wp2_with (go_at_call 24; rw [marks_eq]; refine (contains_any r _ h0 h1).mono ?_; rintro e w' ⟨⟨b, rfl, hb⟩, n, rfl⟩)
        all_goals
          go_ret
          exact ⟨⟨_, rfl, hb⟩, n, rfl⟩

theorem zzPathRune_any (r : Int) (w : World) (h0 : 0 ≤ r) (h1 : r ≤ 255) :
    Calls Try.prog 11 #[.int .i32 r] w fun e w' => RuneOk r e ∧ ∃ n, w' = w.drewN n := by
  go_enter Try.func11, Try.ntmps11
  go_wp2_with (go_at_call 21; refine (pathRune_any r _ h0 h1).mono ?_; rintro e w' ⟨⟨b, rfl, hb⟩, n, rfl⟩)
  go_ret
  exact ⟨⟨_, rfl, hb⟩, n, rfl⟩

theorem not_two (l : List UInt8) (c y : UInt8) (h : l[1]? = some y) (hc : y ≠ c) : ((l.drop 0).take (2 - 0) == [47, c]) = false := by
  match l, h with
  | x :: z :: r, h => simp at h; subst h; simp [hc]
  | [x], h => simp at h
  | [], h => simp at h

theorem not_prefix (t : ByteArray) (c : UInt8) (h : 1 < t.size) (hc : t[1] ≠ c) : ((t.extract 0 2).toList == [47, c]) = false := by
  rw [Lib.toList_data, Lib.extract_data]
  refine not_two _ c t[1] ?_ hc
  rw [← at_data t 1 h]
  exact List.getElem?_eq_getElem _

theorem lite_prefix (t : ByteArray) (c : UInt8) (w : World) (ht : t.size ≤ 1048576) (hc : ∀ h : 1 < t.size, t[1] ≠ c) :
    Calls Try.prog 28 #[.string t, .string ⟨#[47, c]⟩] w fun e w' => e = .returned (.bool false) ∧ w' = w := by
  have h2 : (⟨#[47, c]⟩ : ByteArray).size = 2 := rfl
  by_cases hl : 2 ≤ t.size
  · have hn := not_prefix t c hl (hc hl)
    clear hc
    go_enter Try.func28, Try.ntmps28
    go_wp2
    go_ret
    exact ⟨rfl, rfl⟩
  · clear hc
    go_enter Try.func28, Try.ntmps28
    go_wp2
    go_ret
    exact ⟨rfl, rfl⟩

theorem prefix_no (t : ByteArray) (c : UInt8) (w : World) (ht : t.size ≤ 1048576) (hc : ∀ h : 1 < t.size, t[1] ≠ c) :
    Calls Try.prog 25 #[.string t, .string ⟨#[47, c]⟩] w fun e w' => e = .returned (.bool false) ∧ w' = w := by
  go_enter Try.func25, Try.ntmps25
  go_wp2_with (go_at_call 28; refine (lite_prefix t c _ ht hc).mono ?_; rintro e w' ⟨rfl, rfl⟩)
  go_ret
  exact ⟨rfl, rfl⟩

/-- At place k identLen goes on. -/
def GoesOn (s : ByteArray) (k : Nat) : Prop := ∀ h : k < s.size, (s[k].toNat : Int) = 47 ∧ (∀ h2 : k + 1 < s.size, s[k + 1] ≠ 47 ∧ s[k + 1] ≠ 42) ∨ (s[k].toNat : Int) ≠ 47 ∧ Good (s[k].toNat : Int)

theorem tail_at (s : ByteArray) (k : Nat) (h : 1 < (s.extract k s.size).size) : ∃ h2 : k + 1 < s.size, (s.extract k s.size)[1] = s[k + 1] := by
  have hsz : (s.extract k s.size).size = s.size - k := by simp
  refine ⟨by omega, ?_⟩
  simp [ByteArray.getElem_extract]

set_option maxHeartbeats 400000 in
theorem identLen_whole (s : ByteArray) (w : World) (hs : s.size ≤ 1048576) (hg : ∀ k, 1 ≤ k → GoesOn s k) :
    Calls Try.prog 22 #[.string s] w fun e w' => e = .returned (.int .i64 s.size) ∧ w' = w := by
  go_enter Try.func22, Try.ntmps22
  go_wp2
  go_loop [3] (fun i => ∃ k : Nat, 1 ≤ k ∧ k ≤ s.size + 1 ∧ i = .int .i64 k) (fun i => s.size + 1 - (intOf i).toNat)
  case atStart => exact ⟨1, by omega, by omega, rfl⟩
  case round =>
    obtain ⟨k, hk1, hk, rfl⟩ := hrel
    by_cases hlt : k < s.size
    · rcases hg k hk1 hlt with ⟨h47, hn⟩ | ⟨h47, g1, g2, g3, g4, g5, g6⟩
      · have n1 : ∀ h : 1 < (s.extract k s.size).size, (s.extract k s.size)[1] ≠ 47 := fun h => by
          obtain ⟨h2, e⟩ := tail_at s k h
          rw [e]; exact (hn h2).1
        have n2 : ∀ h : 1 < (s.extract k s.size).size, (s.extract k s.size)[1] ≠ 42 := fun h => by
          obtain ⟨h2, e⟩ := tail_at s k h
          rw [e]; exact (hn h2).2
        have hsz : (s.extract k s.size).size ≤ 1048576 := by simp; omega
        have N1 : Hid (∀ h : 1 < (s.extract k s.size).size, (s.extract k s.size)[1] ≠ 47) := n1
        have N2 : Hid (∀ h : 1 < (s.extract k s.size).size, (s.extract k s.size)[1] ≠ 42) := n2
        have N3 : Hid ((s.extract k s.size).size ≤ 1048576) := hsz
        clear n1 n2 hn hg hsz
        go_wp2_with fail
        refine (prefix_no _ 47 _ N3.out N1.out).mono ?_
        rintro e w' ⟨rfl, hw⟩
        have hw2 := hw.symm; subst hw2; clear hw
        go_wp2_with fail
        refine (prefix_no _ 42 _ N3.out N2.out).mono ?_
        rintro e w' ⟨rfl, hw⟩
        have hw2 := hw.symm; subst hw2; clear hw
        go_wp2
        go_round
        case rel => exact ⟨k + 1, by omega, by omega, by go_num⟩
        case measure => simp [intOf]; omega
      · clear hg
        have b1 : ((s[k].toNat : Int) == 32) = false := beq_eq_false_iff_ne.2 g1
        have b2 : ((s[k].toNat : Int) == 9) = false := beq_eq_false_iff_ne.2 g2
        have b3 : ((s[k].toNat : Int) == 13) = false := beq_eq_false_iff_ne.2 g3
        have b4 : ((s[k].toNat : Int) == 40) = false := beq_eq_false_iff_ne.2 g4
        have b5 : ((s[k].toNat : Int) == 41) = false := beq_eq_false_iff_ne.2 g5
        have b6 : ((s[k].toNat : Int) == 47) = false := beq_eq_false_iff_ne.2 h47
        clear g1 g2 g3 g4 g5 g6 h47
        go_wp2
        go_round
        case rel => exact ⟨k + 1, by omega, by omega, by go_num⟩
        case measure => simp [intOf]; omega
    · clear hg
      go_wp2
      go_ret
      exact ⟨rfl, rfl⟩

theorem zzIdentLen_whole (s : ByteArray) (w : World) (hs : s.size ≤ 1048576) (hg : ∀ k, 1 ≤ k → GoesOn s k) :
    Calls Try.prog 13 #[.string s] w fun e w' => e = .returned (.int .i64 s.size) ∧ w' = w := by
  have HG : Hid (∀ k, 1 ≤ k → GoesOn s k) := hg
  clear hg
  go_enter Try.func13, Try.ntmps13
  go_wp2_with (go_at_call 22; refine (identLen_whole s _ hs HG.out).mono ?_; rintro e w' ⟨rfl, rfl⟩)
  go_ret
  exact ⟨rfl, rfl⟩

end Go.Proofs.Qxb6000755a.Path
