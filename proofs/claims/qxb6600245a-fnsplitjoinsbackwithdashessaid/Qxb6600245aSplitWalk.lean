/-
  THE WALK of split (seat b6600245a).
-/
import Derived.Test.Qxb6600245aState
import Derived.Deep.DeepCutAuto
namespace Go.Proofs.Qxb6600245a
open Go.RowKit

def lenV : Value → Nat
  | .slice _ n _ => n
  | _ => 0

/-- Where split's loop stands. -/
def Stand (w : World) (K n : Nat) (l : List UInt8) (d v k : Value) (wr : World) : Prop :=
  ∃ (a' : Option Addr) (n' c' : Nat) (rest : List UInt8) (ds : List Ch) (t : List UInt8) (ln kk N : Nat) (tv : Value), d = .slice a' n' c' ∧ n' ≤ c' ∧ RB w a' n' rest ∧ k = .int .i64 kk ∧
    kk + n' ≤ n + 1 ∧ t.length + n' ≤ n ∧ ds.length + 1 ≤ kk ∧ St w wr K v tv ds t ln N ∧ ds.map (·.2) ++ Plain.splitLs (Plain.lns rest) kk t ln = Plain.split l

set_option maxHeartbeats 1000000 in
set_option maxRecDepth 100000 in
theorem split_any (a : Option Addr) (n c : Nat) (l : List UInt8) (w : World) (hc : n ≤ c) (hn : n ≤ 65536) (h : RB w a n l) (K : Nat) (hK : w.heap.size = K) :
    Calls Try.prog 18 #[.slice a n c] w fun e w' => (∃ v, e = .returned v ∧ Out w' v (Plain.split l)) ∧ Below K w w' := by
  obtain ⟨i37, hi37, hz37, hs37, hb37⟩ := info_parts info37
  obtain ⟨i5, hi5, hz5, hs5, hb5⟩ := info_parts info5
  go_enter Try.func18, Try.ntmps18
  go_wp2
  go_loopw [0, 3, 5] (fun d v k wr => Stand w K n l d v k wr) (fun d _ _ _ => lenV d)
  case atStart =>
    refine ⟨a, n, c, l, [], [], 1, 1, K + 1, .slice none 0 0, rfl, hc, h, rfl, by omega, by simp, by simp, ?_, by simp [Plain.split]⟩
    exact {
      box := by rw [← hK]; exact heap_alloc_new w _
      below := by rw [← hK]; exact (Below.refl _ w).alloc (Nat.le_refl _) _
      row := World.ownsRow_nil _ _ _ _
      kn := by omega
      nw := by simp; omega
      text := World.ownsRow_nil _ _ _ _
      fin := by simp }
  case round =>
    obtain ⟨a', n', c', rest, ds, t, ln, kk, N, tv, rfl, hnc, hrb, rfl, hkn, htn, hds, hst, hsp⟩ := hrel
    have HSP : Hid (ds.map (·.2) ++ Plain.splitLs (Plain.lns rest) kk t ln = Plain.split l) := hsp
    have HST : Hid (St w wr K u3 tv ds t ln N) := hst
    have c0 := hst.cell0
    have c1 := hst.cell1
    clear hsp hst
    by_cases h0 : 0 < n'
    · obtain ⟨b, off, rfl, hat⟩ := hrb.pos h0
      have hBw : Below w.heap.size w wr := by rw [hK]; exact HST.out.below
      have hrl : Hid (rest.length = n') := hrb.1
      have hne : rest ≠ [] := fun e => by have := hrl.out; rw [e] at this; simp at this; omega
      have HA : Hid (At wr b off rest) := hat.kept hBw
      have HLN : Hid (Plain.lns rest = Plain.line rest :: Plain.lns (rest.drop (Plain.line rest).length)) := Plain.lns_line rest hne
      have HTK : Hid (rest.take (Plain.line rest).length = Plain.line rest) := Plain.line_take rest
      have hix := Plain.line_ix rest
      have hpos := Plain.line_pos rest hne
      have hlen := Plain.line_len rest
      have hge := Lib.indexByte_ge rest 10
      have hlt : K + 1 ≤ wr.heap.size := HST.out.lt
      have H1 : Hid (tv.oneCell' = true) := own_one HST.out.text
      have HRB : Hid (RB w (some ⟨b, off, none⟩) n' rest) := hrb
      clear hrb hne hat hBw
      generalize Plain.line rest = x at *
      obtain ⟨L, HL⟩ : ∃ L, Hid (x.length = L) := ⟨_, rfl⟩
      have hLn : L ≤ n' := by have h1 := HL.out; have h2 := hrl.out; omega
      have hL1 : 0 < L := by have h1 := HL.out; omega
      have hw : Hid (Lib.indexByte rest 10 < 0 ∧ L = n' ∨ 0 ≤ Lib.indexByte rest 10 ∧ (Lib.indexByte rest 10 + 1).toNat = L ∧ Lib.indexByte rest 10 + 1 ≤ n') := by
        show _ ∨ _
        have h1 := HL.out
        have h2 := hrl.out
        by_cases hi : Lib.indexByte rest 10 = -1
        · left; rw [if_pos hi] at hix; omega
        · right
          rw [if_neg hi] at hix
          omega
      clear hix hpos hlen
      go_upto_if 18 with (go_at_call 21; refine (index_any b off n' c' rest _ hrl.out HA.out).mono ?_; rintro e w' ⟨rfl, hw⟩; have hw2 := hw.symm; subst hw2; clear hw; generalize Lib.indexByte rest 10 = q at *)
      go_cut [6] (fun y wx => y = .slice (some ⟨b, off, none⟩) L c' ∧ wx = wr)
      case first =>
        rcases hw.out with ⟨hi, e⟩ | ⟨hi, e, hqn⟩
        · have e2 : Hid (L = n') := e
          clear hw hge e
          go_wp2
          go_meet
          exact ⟨by rw [e2.out], rfl⟩
        · have e2 : Hid ((q + 1).toNat = L) := e
          have hqc : q + 1 ≤ c' := by omega
          clear hw hge e
          go_wp2
          go_meet
          exact ⟨by rw [← e2.out], rfl⟩
      case rest =>
        obtain ⟨rfl, hwc⟩ := hcut
        have hwc2 := hwc.symm
        subst hwc2
        clear hwc hw hge
        go_upto_region 10 with fail
        go_cut [0] (fun y wx => (∃ a2, y = .slice a2 (n' - L) (c' - L) ∧ RB w a2 (n' - L) (rest.drop L)) ∧ wx = wr)
        case first =>
          by_cases hcl : c' = L
          · have hn0 : Hid (n' - L = 0 ∧ c' - L = 0) := ⟨by omega, by omega⟩
            have hr0 : Hid (rest.drop L = []) := List.drop_eq_nil_of_le (by have := hrl.out; omega)
            go_wp2
            go_meet
            exact ⟨⟨_, by rw [hn0.out.2], by rw [hr0.out, hn0.out.1]; exact ⟨rfl, .inl rfl⟩⟩, rfl⟩
          · go_wp2
            go_meet
            refine ⟨⟨_, rfl, ?_⟩, rfl⟩
            refine ⟨by rw [List.length_drop, hrl.out], .inr ⟨b, off + L, rfl, ?_⟩⟩
            rcases HRB.out.2 with e | ⟨b2, off2, e, hat⟩
            · have := hrl.out; rw [e] at this; simp at this; omega
            · cases e; exact hat.drop L
        case rest =>
          obtain ⟨⟨a2, rfl, hrb2⟩, hwc⟩ := hcut
          have hwc2 := hwc.symm
          subst hwc2
          clear hwc
          have HRB2 : Hid (RB w a2 (n' - L) (rest.drop L)) := hrb2
          clear hrb2
          have hLc : L ≤ c' := by omega
          have HX : Hid (RB wr (some ⟨b, off, none⟩) L x) := by
            refine ⟨HL.out, .inr ⟨b, off, rfl, ?_⟩⟩
            have := HA.out.take L
            rw [← HL.out, HTK.out] at this
            exact this
          go_wp2_with fail
          refine (isMarker_any 45 _ L c' x _ hLc HX.out).mono ?_
          rintro e w1 ⟨rfl, hb1⟩
          have HB1 : Hid (Below wr.heap.size wr w1) := hb1
          have HS1 : Hid (St w w1 K u3 tv ds t ln N) := HST.out.later hb1
          have c0' := HS1.out.cell0
          have c1' := HS1.out.cell1
          have hlt1 : K + 1 ≤ w1.heap.size := HS1.out.lt
          clear hb1
          cases hm : Plain.isM 45 x with
          | true =>
            have HM : Hid (Plain.isM 45 x = true) := hm
            clear hm
            have hL3 : 3 ≤ L := by have h1 := Plain.isM_len HM.out; have h2 := HL.out; omega
            have HSP2 : Hid ((ds ++ [(tv, t, ln)]).map (·.2) ++ Plain.splitLs (Plain.lns (rest.drop L)) (kk + 1) (x.drop 3) kk = Plain.split l) := by
              show _ = _
              rw [← HSP.out, HLN.out, Plain.step_dash _ _ _ _ HM.out, HL.out]; simp
            have hxd : Hid ((x.drop 3).length = L - 3) := by show _ = _; rw [List.length_drop, HL.out]
            have hdl : Hid ((ds ++ [(tv, t, ln)]).length = ds.length + 1) := by show _ = _; simp
            have HAW : Hid (At w b off x) := by
              rcases HRB.out.2 with e | ⟨b2, off2, e, hat⟩
              · exfalso; have := hrl.out; rw [e] at this; simp at this; omega
              · cases e
                have := hat.take L
                rw [← HL.out, HTK.out] at this
                exact this
            by_cases hc3 : c' = 3
            · obtain rfl : L = 3 := by omega
              subst hc3
              go_wp2_with (first
                | (at_builtin; refine wpList_append_own _ rfl (.tmp 35) (.tmp 37) 34 rfl (K + 1) 37 i37 (.agg #[.slice none 0 0, .int .i64 0]) 2 32 Try.underlying34 hi37 hz37 hs37 hb37 rfl (by decide) u3 ds.length (flat ds) rfl (HS1.out.alloc _).row ⟨w1.heap.size, 0, none⟩ 1 1 [tv, .int .i64 (ln : Int)] rfl rfl (two_new _ _ _ _) (two_one H1.out _) (by unfold maxLen; omega) (by omega) (by simp; omega) ?_; intro v' w2 hown' hgrow _; have HM2 : Hid (Mid w w2 K v' (ds ++ [(tv, t, ln)])) := (HS1.out.alloc _).push hown' hgrow; clear hown' hgrow)
                | (at_builtin; refine wpList_append_own _ rfl (.const (.slice none 0 0)) (.tmp 40) 22 rfl w2.heap.size 5 i5 (.int .u8 0) 1 1 Try.underlying22 hi5 hz5 hs5 hb5 rfl (by decide) (.slice none 0 0) 0 [] rfl (World.ownsRow_nil _ _ _ _) ⟨b, off, none⟩ 0 0 (cells (x.drop 3)) rfl (by rw [cells_len, hxd.out]) (by intro j u hu; have h9 := (List.getElem?_eq_some_iff.1 hu).1; rw [cells_len, hxd.out] at h9; omega) (cells_one _) (by unfold maxLen; omega) (by omega) (Nat.le_refl _) ?_; intro tv' w3 hown3 hg3 _; obtain ⟨ta, tn, tc, rfl⟩ := own_shape hown3; obtain ⟨f0, f1, y0, y1, k0, k1⟩ := HM2.out.free hg3; have HS3 := HM2.out.fresh (t := x.drop 3) kk (by rw [hxd.out]; exact hown3) hg3; have HS4 : Hid (St w ((w3.setCell ⟨K, 0, none⟩ (.slice ta tn tc)).setCell ⟨K, 1, none⟩ (.int .i64 (kk : Int))) K v' (.slice ta tn tc) (ds ++ [(tv, t, ln)]) (x.drop 3) kk w2.heap.size) := HS3; clear HS3 hown3 hg3))
              go_roundw
              case rel => exact ⟨a2, 0, 0, rest.drop 3, _, x.drop 3, kk, kk + 1, w2.heap.size, _, rfl, Nat.le_refl _, (show n' - 3 = 0 from by omega) ▸ HRB2.out, by go_num, by omega, by rw [hxd.out]; omega, by rw [hdl.out]; omega, HS4.out, HSP2.out⟩
              case measure => simp [lenV]; omega
            · go_wp2_with (first
                | (at_builtin; refine wpList_append_own _ rfl (.tmp 35) (.tmp 37) 34 rfl (K + 1) 37 i37 (.agg #[.slice none 0 0, .int .i64 0]) 2 32 Try.underlying34 hi37 hz37 hs37 hb37 rfl (by decide) u3 ds.length (flat ds) rfl (HS1.out.alloc _).row ⟨w1.heap.size, 0, none⟩ 1 1 [tv, .int .i64 (ln : Int)] rfl rfl (two_new _ _ _ _) (two_one H1.out _) (by unfold maxLen; omega) (by omega) (by simp; omega) ?_; intro v' w2 hown' hgrow _; have HM2 : Hid (Mid w w2 K v' (ds ++ [(tv, t, ln)])) := (HS1.out.alloc _).push hown' hgrow; clear hown' hgrow)
                | (at_builtin; refine wpList_append_own _ rfl (.const (.slice none 0 0)) (.tmp 40) 22 rfl w2.heap.size 5 i5 (.int .u8 0) 1 1 Try.underlying22 hi5 hz5 hs5 hb5 rfl (by decide) (.slice none 0 0) 0 [] rfl (World.ownsRow_nil _ _ _ _) ⟨b, off + 3, none⟩ (L - 3) (c' - 3) (cells (x.drop 3)) rfl (by rw [cells_len, hxd.out]; omega) ((HAW.out.kept (by rw [hK]; exact HM2.out.below)).drop 3).cells (cells_one _) (by unfold maxLen; omega) (by omega) (Nat.le_refl _) ?_; intro tv' w3 hown3 hg3 _; obtain ⟨ta, tn, tc, rfl⟩ := own_shape hown3; obtain ⟨f0, f1, y0, y1, k0, k1⟩ := HM2.out.free hg3; have HS3 := HM2.out.fresh (t := x.drop 3) kk (by rw [hxd.out]; simpa using hown3) hg3; have HS4 : Hid (St w ((w3.setCell ⟨K, 0, none⟩ (.slice ta tn tc)).setCell ⟨K, 1, none⟩ (.int .i64 (kk : Int))) K v' (.slice ta tn tc) (ds ++ [(tv, t, ln)]) (x.drop 3) kk w2.heap.size) := HS3; clear HS3 hown3 hg3))
              go_roundw
              case rel => exact ⟨a2, n' - L, c' - L, rest.drop L, _, x.drop 3, kk, kk + 1, w2.heap.size, _, rfl, by omega, HRB2.out, by go_num, by omega, by rw [hxd.out]; omega, by rw [hdl.out]; omega, HS4.out, HSP2.out⟩
              case measure => simp [lenV]; omega
          | false =>
            have HM : Hid (Plain.isM 45 x = false) := hm
            clear hm
            go_wp2_with fail
            refine (isMarker_any 46 _ L c' x _ hLc (HX.out.kept HB1.out)).mono ?_
            rintro e w5 ⟨rfl, hb5'⟩
            have HB5 : Hid (Below w1.heap.size w1 w5) := hb5'
            have HS5 : Hid (St w w5 K u3 tv ds t ln N) := HS1.out.later hb5'
            have c05 := HS5.out.cell0
            have c15 := HS5.out.cell1
            have hlt5 : K + 1 ≤ w5.heap.size := HS5.out.lt
            clear hb5' c0 c1 c0' c1'
            cases hm : Plain.isM 46 x with
            | true =>
              have HM6 : Hid (Plain.isM 46 x = true) := hm
              clear hm
              have HSP2 : Hid ((ds ++ [(tv, t, ln)]).map (·.2) ++ Plain.splitLs (Plain.lns (rest.drop L)) (kk + 1) [] (kk + 1) = Plain.split l) := by
                show _ = _
                rw [← HSP.out, HLN.out, Plain.step_dot _ _ _ _ HM.out HM6.out, HL.out]; simp
              have hdl : Hid ((ds ++ [(tv, t, ln)]).length = ds.length + 1) := by show _ = _; simp
              go_wp2_with (at_builtin; refine wpList_append_own _ rfl (.tmp 47) (.tmp 49) 34 rfl (K + 1) 37 i37 (.agg #[.slice none 0 0, .int .i64 0]) 2 32 Try.underlying34 hi37 hz37 hs37 hb37 rfl (by decide) u3 ds.length (flat ds) rfl (HS5.out.alloc _).row ⟨w5.heap.size, 0, none⟩ 1 1 [tv, .int .i64 (ln : Int)] rfl rfl (two_new _ _ _ _) (two_one H1.out _) (by unfold maxLen; omega) (by omega) (by simp; omega) ?_; intro v' w2 hown' hgrow _; have HM2 : Hid (Mid w w2 K v' (ds ++ [(tv, t, ln)])) := (HS5.out.alloc _).push hown' hgrow; clear hown' hgrow; obtain ⟨f0, f1, y0, y1, k0, k1⟩ := HM2.out.free (World.grownBy.refl _ _))
              have HS3 := HM2.out.fresh (t := []) (tv := .slice none 0 0) (w3 := w2) (kk + 1) (World.ownsRow_nil _ _ _ _) (World.grownBy.refl _ _)
              go_roundw
              case rel => exact ⟨a2, n' - L, c' - L, rest.drop L, _, [], kk + 1, kk + 1, w2.heap.size, _, rfl, by omega, HRB2.out, by go_num, by omega, by simp; omega, by rw [hdl.out]; omega, HS3, HSP2.out⟩
              case measure => simp [lenV]; omega
            | false =>
              have HM6 : Hid (Plain.isM 46 x = false) := hm
              clear hm
              have HSP2 : Hid (ds.map (·.2) ++ Plain.splitLs (Plain.lns (rest.drop L)) (kk + 1) (t ++ x) ln = Plain.split l) := by
                show _ = _
                rw [← HSP.out, HLN.out, Plain.step_plain _ _ _ _ HM.out HM6.out, HL.out]
              have hxt : Hid ((t ++ x).length = t.length + L) := by show _ = _; rw [List.length_append, HL.out]
              have HAT : Hid (At w5 b off x) := by
                obtain ⟨b2, off2, e, hat⟩ := ((HX.out.kept HB1.out).kept HB5.out).pos hL1
                cases e; exact hat
              have hNw := HS5.out.nw
              go_wp2_with (at_builtin; refine wpList_append_own _ rfl (.tmp 28) (.tmp 29) 22 rfl N 5 i5 (.int .u8 0) 1 1 Try.underlying22 hi5 hz5 hs5 hb5 rfl (by decide) tv t.length (cells t) rfl HS5.out.text ⟨b, off, none⟩ L c' (cells x) rfl (by rw [cells_len, HL.out]; omega) HAT.out.cells (cells_one _) (by unfold maxLen; omega) (by omega) hNw ?_; intro tv' w3 hown3 hg3 _; obtain ⟨ta, tn, tc, rfl⟩ := own_shape hown3; obtain ⟨f0, k0⟩ := HS5.out.free hg3; have HS4 : Hid (St w (w3.setCell ⟨K, 0, none⟩ (.slice ta tn tc)) K u3 (.slice ta tn tc) ds (t ++ x) ln N) := HS5.out.grow (by rw [HL.out]; exact hown3) hg3; clear hown3 hg3)
              go_roundw
              case rel => exact ⟨a2, n' - L, c' - L, rest.drop L, ds, t ++ x, ln, kk + 1, N, _, rfl, by omega, HRB2.out, by go_num, by omega, by rw [hxt.out]; omega, by omega, HS4.out, HSP2.out⟩
              case measure => simp [lenV]; omega
    · have hlt : K + 1 ≤ wr.heap.size := HST.out.lt
      have H1 : Hid (tv.oneCell' = true) := own_one HST.out.text
      go_wp2_with (at_builtin; refine wpList_append_own _ rfl (.tmp 54) (.tmp 56) 34 rfl (K + 1) 37 i37 (.agg #[.slice none 0 0, .int .i64 0]) 2 32 Try.underlying34 hi37 hz37 hs37 hb37 rfl (by decide) u3 ds.length (flat ds) rfl (HST.out.alloc _).row ⟨wr.heap.size, 0, none⟩ 1 1 [tv, .int .i64 (ln : Int)] rfl rfl (two_new _ _ _ _) (two_one H1.out _) (by unfold maxLen; omega) (by omega) (by simp; omega) ?_; intro v' w2 hown' hgrow _)
      go_ret
      have hm := (HST.out.alloc _).push hown' hgrow
      have hr : rest = [] := List.eq_nil_of_length_eq_zero (by rw [hrb.1]; omega)
      refine ⟨⟨_, rfl, ?_⟩, hm.below⟩
      have ho := hm.out
      rw [show Plain.split l = List.map (fun x => x.snd) (ds ++ [(tv, t, ln)]) from by rw [← HSP.out, hr]; simp [Plain.lns, Plain.splitLs]]
      exact ho

end Go.Proofs.Qxb6600245a
