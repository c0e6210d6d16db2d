/-
  THE WALK of unescape at an escaped text, and of FnEscapeRoundTrip.
-/
import Derived.Test.Qxb6000859aReads
namespace Go.Proofs.Qxb6000859a
open Go.RowKit

theorem base_alloc {B : Nat} {w : World} (h : B ≤ w.heap.size) (o : Obj) : B ≤ (w.alloc o).heap.size := Nat.le_trans h (by simp)
theorem one_val {x : Value} (h : x.oneCell' = true) : ∀ u ∈ [x], u.oneCell' = true := by intro u hu; simp at hu; subst hu; exact h

/-- The row of the bytes of s up to k, grown by one. -/
theorem grown_row {B k : Nat} {s : ByteArray} {v v' : Value} {w wr w' : World} (o : Obj) (hlt : k < s.size) (hown : wr.ownsRow B 5 1 v k (Lib.byteCells (s.data.toList.take k))) (hb : Below B w wr) (hz : B ≤ wr.heap.size)
    (ho : w'.ownsRow B 5 1 v' (k + 1) (Lib.byteCells (s.data.toList.take k) ++ [.int .u8 (s[k].toNat : Int)])) (hg : (wr.alloc o).grownBy w' v.ownBlock) :
    w'.ownsRow B 5 1 v' (k + 1) (Lib.byteCells (s.data.toList.take (k + 1))) ∧ Below B w w' ∧ B ≤ w'.heap.size := by
  rw [take_next s k hlt] at ho
  have hb2 : Below B w w' := (hb.alloc hz o).grown hg (base_alloc hz o) (fun j hj => (hown.lt j hj).1)
  exact ⟨ho, hb2, Nat.le_trans (base_alloc hz o) hg.size⟩

def ReadsYes (s E : ByteArray) : Prop := ∀ k (h : k < s.size), unres s[k].toNat = true → ∃ h0 : place s k < E.size, E[place s k].toNat = s[k].toNat
def ReadsNo (s E : ByteArray) : Prop := ∀ k (h : k < s.size), unres s[k].toNat = false →
    ∃ hi lo : Nat, hi < 16 ∧ lo < 16 ∧ hi * 16 + lo = s[k].toNat ∧ ∃ (h0 : place s k < E.size) (h1 : place s k + 1 < E.size) (h2 : place s k + 2 < E.size), E[place s k].toNat = 37 ∧ E[place s k + 1].toNat = (hex hi).toNat ∧ E[place s k + 2].toNat = (hex lo).toNat

theorem info5 : ∃ i : TypeInfo, Try.prog.info? 5 = some i ∧ i.zero = some (.int .u8 0) ∧ i.size = 1 ∧ i.bytes = 1 := info_parts Try.Builder_Extra_169.infoByte

/-- string(out): the bytes of the row. -/
theorem bytes_back {B : Nat} {s : ByteArray} {v : Value} {w : World} (hown : w.ownsRow B 5 1 v s.size (Lib.byteCells s.data.toList)) :
    (convert 31 9 v).run Try.prog w = .ok (.string s) w := by
  have hs : s = ByteArray.mk s.data.toList.toArray := by simp
  rcases hown.2 with ⟨hv, h0⟩ | ⟨g, cap, cur, hv, _⟩
  · subst hv
    rw [run_convert_bytes_nil w 31 5 Try.underlying31 Try.underlying5 _ _ 9 Try.underlying9]
    have : s = ByteArray.empty := by
      rw [hs]
      have : s.data.toList = [] := List.eq_nil_of_length_eq_zero (by rw [len_data]; exact h0)
      rw [this]; rfl
    rw [this]
  · subst hv
    have h1 := run_convert_bytes_back w 31 9 5 ⟨g, 0, none⟩ cap s.data.toList Try.underlying31 Try.underlying5 Try.underlying9 (fun j hj => hown.cells (g := g) rfl j _ (by simp [Lib.byteCells, List.getElem?_eq_getElem hj]))
    rw [len_data] at h1
    rw [h1, ← hs]

set_option maxHeartbeats 1000000 in
theorem unescape_any (s : ByteArray) (w : World) (hs : s.size ≤ 1048576) :
    Calls Try.prog 12 #[.string (ByteArray.mk (esc s.data.toList).toArray)] w fun e w' => e = .returned (.tuple #[.string s, .bool true]) ∧ Below w.heap.size w w' := by
  obtain ⟨i5, hi5, hz5, hs5, hb5⟩ := info5
  have HP : Hid (∀ k, s.size ≤ k → place s k = (ByteArray.mk (esc s.data.toList).toArray).size) := place_all s
  have HY : ReadsYes s (ByteArray.mk (esc s.data.toList).toArray) := read_yes s
  have HN : ReadsNo s (ByteArray.mk (esc s.data.toList).toArray) := read_no s
  obtain ⟨m, hm1, hm2⟩ := fix_facts s
  generalize ByteArray.mk (esc s.data.toList).toArray = E at hm1 HP HY HN ⊢
  have HY2 : Hid (ReadsYes s E) := HY
  have HN2 : Hid (ReadsNo s E) := HN
  clear HY HN
  have hE : E.size ≤ 3145728 := by omega
  clear hm1 hm2
  go_enter Try.func12, Try.ntmps12
  go_wp2_with (at_make; refine wpList_make_own _ rfl _ _ 31 rfl w.heap.size 5 i5 (.int .u8 0) 1 Try.underlying31 hi5 hz5 hs5 _ _ _ E.size rfl rfl rfl (by rw [hb5]; omega) (by unfold maxLen; omega) (Nat.le_refl _) ?_; intro w1 hown hg; have HB : Hid (Below w.heap.size w w1) := (Below.refl _ w).grown hg (Nat.le_refl _) (fun k hk => by cases hk); have hz1 : w.heap.size ≤ w1.heap.size := hg.size; have HO : Hid (w1.ownsRow w.heap.size 5 1 (.slice (some ⟨w.heap.size, 0, none⟩) 0 E.size) 0 (Lib.byteCells (s.data.toList.take 0))) := hown; clear hown hg)
  go_loopw [4, 5] (fun v i wr => ∃ k : Nat, k ≤ s.size ∧ i = .int .i64 (place s k : Nat) ∧ w.heap.size ≤ wr.heap.size ∧ Hid (wr.ownsRow w.heap.size 5 1 v k (Lib.byteCells (s.data.toList.take k))) ∧ Hid (Below w.heap.size w wr)) (fun _ i _ => E.size - (intOf i).toNat)
  case atStart => exact ⟨0, Nat.zero_le _, by rw [place_zero]; rfl, hz1, HO, HB⟩
  case round =>
    clear HB HO hz1
    obtain ⟨k, hk, rfl, hz, HO, HB⟩ := hrel
    by_cases hlt : k < s.size
    · cases hc : unres s[k].toNat with
      | true =>
        obtain ⟨h0, hr⟩ := HY2.out k hlt hc
        have HC : Hid (unres s[k].toNat = true) := hc
        have HQ : Hid (place s (k + 1) = place s k + 1) := place_yes s k hlt hc
        have HR : Hid (∃ h0 : place s k < E.size, E[place s k].toNat = s[k].toNat) := ⟨h0, hr⟩
        have h37 : ((E[place s k].toNat : Int) == 37) = false := by
          rw [hr]
          have := not_percent hc
          simp; omega
        clear hr hc
        generalize place s k = p at h0 HQ HR h37 ⊢
        go_wp2_with fail
        obtain ⟨_, hr⟩ := HR.out
        rw [hr]; clear hr h37
        refine (isUnreserved_any _ _).mono ?_
        rintro e w' ⟨rfl, hw⟩; have hw2 := hw.symm; subst hw2; clear hw
        rw [HC.out]
        go_wp2_with (at_builtin; refine wpList_append_own _ rfl (.tmp 67) (.tmp 69) 31 rfl w.heap.size 5 i5 (.int .u8 0) 1 1 Try.underlying31 hi5 hz5 hs5 hb5 rfl (by decide) u4 _ _ rfl (HO.out.alloc _) ⟨wr.heap.size, 0, none⟩ 1 1 [.int .u8 (s[k].toNat : Int)] rfl rfl (cell_one_new _ _ _) (one_val rfl) (by unfold maxLen; omega) (by omega) (base_alloc hz _) ?_; intro v2 w2 ho hg _; obtain ⟨ho2, hb2, hz2⟩ := grown_row _ hlt HO.out HB.out hz ho hg; have HO2 : Hid (w2.ownsRow w.heap.size 5 1 v2 (k + 1) (Lib.byteCells (s.data.toList.take (k + 1)))) := ho2; have HB2 : Hid (Below w.heap.size w w2) := hb2; clear ho hg ho2 hb2)
        go_roundw
        case rel => exact ⟨k + 1, by omega, by rw [HQ.out]; go_num, hz2, HO2, HB2⟩
        case measure => simp [intOf]; omega
      | false =>
        obtain ⟨hi, lo, hhi, hlo, hsum, h0, h1, h2, r0, r1, r2⟩ := HN2.out k hlt hc
        have HC : Hid (unres s[k].toNat = false) := hc
        have HQ : Hid (place s (k + 1) = place s k + 3) := place_no s k hlt hc
        have HR1 : Hid (∃ h1 : place s k + 1 < E.size, E[place s k + 1].toNat = (hex hi).toNat) := ⟨h1, r1⟩
        have HR2 : Hid (∃ h2 : place s k + 2 < E.size, E[place s k + 2].toNat = (hex lo).toNat) := ⟨h2, r2⟩
        have h37 : ((E[place s k].toNat : Int) == 37) = true := by
          rw [r0]; rfl
        clear hc r0 r1 r2
        have HS : Hid (hi * 16 + lo = s[k].toNat) := hsum
        clear hsum
        generalize place s k = p at h0 h1 h2 HQ HR1 HR2 h37 ⊢
        go_wp2_with fail
        obtain ⟨_, hr⟩ := HR1.out
        rw [hr]; clear hr
        refine (upperHex_any hi _ hhi).mono ?_
        rintro e w' ⟨rfl, hw⟩; have hw2 := hw.symm; subst hw2; clear hw
        go_wp2_with fail
        obtain ⟨_, hr⟩ := HR2.out
        rw [hr]; clear hr
        refine (upperHex_any lo _ hlo).mono ?_
        rintro e w' ⟨rfl, hw⟩; have hw2 := hw.symm; subst hw2; clear hw
        go_wp2_with fail
        rw [show ((hi : Int) * 16 + (lo : Int)) = ((s[k].toNat : Nat) : Int) from by have := HS.out; omega]
        refine (isUnreserved_any _ _).mono ?_
        rintro e w' ⟨rfl, hw⟩; have hw2 := hw.symm; subst hw2; clear hw
        rw [HC.out]
        clear h37
        go_wp2_with (at_builtin; refine wpList_append_own _ rfl (.tmp 58) (.tmp 60) 31 rfl w.heap.size 5 i5 (.int .u8 0) 1 1 Try.underlying31 hi5 hz5 hs5 hb5 rfl (by decide) u4 _ _ rfl (HO.out.alloc _) ⟨wr.heap.size, 0, none⟩ 1 1 [.int .u8 (s[k].toNat : Int)] rfl rfl (cell_one_new _ _ _) (one_val rfl) (by unfold maxLen; omega) (by omega) (base_alloc hz _) ?_; intro v2 w2 ho hg _; obtain ⟨ho2, hb2, hz2⟩ := grown_row _ hlt HO.out HB.out hz ho hg; have HO2 : Hid (w2.ownsRow w.heap.size 5 1 v2 (k + 1) (Lib.byteCells (s.data.toList.take (k + 1)))) := ho2; have HB2 : Hid (Below w.heap.size w w2) := hb2; clear ho hg ho2 hb2)
        go_roundw
        case rel => exact ⟨k + 1, by omega, by rw [HQ.out]; go_num, hz2, HO2, HB2⟩
        case measure => simp [intOf]; omega
    · have hke : k = s.size := by omega
      subst hke
      rw [HP.out s.size (Nat.le_refl _)]
      have hT : s.data.toList.take s.size = s.data.toList := List.take_of_length_le (by rw [len_data]; exact Nat.le_refl _)
      rw [hT] at HO
      have HV : Hid ((convert 31 9 u4).run Try.prog wr = .ok (.string s) wr) := bytes_back HO.out
      go_wp2_with fail
      rw [HV.out]
      simp only [Result.andThen]
      rw [Oper.upon_value]
      go_wp2
      go_ret2
      exact ⟨rfl, HB.out⟩

set_option maxHeartbeats 400000 in
theorem round_small (s : ByteArray) (w : World) (hs : s.size ≤ 1048576) :
    Calls Try.prog 3 #[.string s] w fun e w' => e = .returned (.bool true) ∧ Below w.heap.size w w' := by
  have HD : Hid (decide (s.size ≤ 1048576) = true) := decide_eq_true hs
  go_enter Try.func3, Try.ntmps3
  go_wp2_with fail
  refine (zzBytes10_any _ _ (by omega)).mono ?_
  rintro e w' ⟨rfl, hw⟩; have hw2 := hw.symm; subst hw2; clear hw
  rw [HD.out]; clear HD
  go_wp2_with fail
  refine (zzEscape_any s _ hs).mono ?_
  rintro e w1 ⟨rfl, hb⟩
  have HL : Hid (Below w.heap.size w w1) := hb
  clear hb
  go_wp2_with fail
  refine (unescape_any s _ hs).mono ?_
  rintro e w2 ⟨rfl, hb⟩
  have HL2 : Hid (Below w.heap.size w w2) := HL.out.trans (hb.mono HL.out.size)
  clear hb
  go_wp2
  go_ret
  exact ⟨rfl, HL2.out⟩

set_option maxHeartbeats 400000 in
theorem round_big (s : ByteArray) (w : World) (h0 : s.size < 9223372036854775808) (hs : ¬ s.size ≤ 1048576) :
    Calls Try.prog 3 #[.string s] w fun e w' => e = .returned (.bool true) ∧ Below w.heap.size w w' := by
  have HD : Hid (decide (s.size ≤ 1048576) = false) := decide_eq_false hs
  go_enter Try.func3, Try.ntmps3
  go_wp2_with fail
  refine (zzBytes10_any _ _ h0).mono ?_
  rintro e w' ⟨rfl, hw⟩; have hw2 := hw.symm; subst hw2; clear hw
  rw [HD.out]; clear HD
  go_wp2
  go_ret
  exact ⟨rfl, Below.refl _ _⟩

theorem round_any (s : ByteArray) (w : World) (h0 : s.size ≤ maxLen) :
    Calls Try.prog 3 #[.string s] w fun e w' => e = .returned (.bool true) ∧ Below w.heap.size w w' := by
  by_cases hs : s.size ≤ 1048576
  · exact round_small s w hs
  · exact round_big s w (by unfold maxLen at h0; omega) hs

end Go.Proofs.Qxb6000859a
