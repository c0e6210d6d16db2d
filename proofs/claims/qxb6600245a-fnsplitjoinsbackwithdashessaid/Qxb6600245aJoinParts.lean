/-
  PARTS of FnSplitJoinsBackWithDashes (seat b6600245a): the joined text, plainly; ZZSplit once more, with what a nil text is.
-/
import Derived.Test.Qxb6600245aLawParts
namespace Go.Proofs.Qxb6600245a
open Go.RowKit

namespace Plain

theorem join_more (T : List (List UInt8)) (i : Nat) (h0 : 0 < i) (h : i < T.length) : join (T.take (i + 1)) = join (T.take i) ++ [45, 45, 45] ++ T[i] := by
  cases T with
  | nil => simp at h
  | cons t r =>
    obtain ⟨j, rfl⟩ : ∃ j, i = j + 1 := ⟨i - 1, by omega⟩
    have hj : j < r.length := by simpa using h
    simp only [List.take_succ_cons, join, List.getElem_cons_succ]
    rw [List.take_succ_eq_append_getElem hj, List.map_append, List.flatten_append]
    simp only [List.map_cons, List.map_nil, List.flatten_cons, List.flatten_nil, List.append_nil, List.append_assoc]

theorem join_le (T : List (List UInt8)) (i : Nat) (h0 : 0 < i) : (join (T.take i)).length ≤ (join T).length := by
  cases T with
  | nil => simp
  | cons t r =>
    obtain ⟨j, rfl⟩ : ∃ j, i = j + 1 := ⟨i - 1, by omega⟩
    simp only [List.take_succ_cons, join]
    conv => rhs; rw [← List.take_append_drop j r]
    rw [List.map_append, List.flatten_append]
    simp only [List.length_append]
    omega

theorem join_one (T : List (List UInt8)) (h : 0 < T.length) : join (T.take 1) = T[0] := by
  cases T with
  | nil => simp at h
  | cons t r => simp [join]

theorem joined (l : List UInt8) (h : (lns l).any (isM 46) = false) : join ((split l).map (·.1)) = l := by
  have hx : ∀ y ∈ lns l, isM 46 y = false := by
    intro y hy
    have := List.any_eq_false.1 h y hy
    simpa using this
  have := split_join (lns l) 1 [] 1 hx
  rw [lns_flat] at this
  simpa [split] using this

end Plain

/-- A slice value that reads as l; nil has no capacity. -/
def TxtN (w : World) (v : Value) (l : List UInt8) : Prop := ∃ a n c, v = .slice a n c ∧ n ≤ c ∧ (a = none → c = 0) ∧ RB w a n l

theorem TxtN.kept {w w' : World} {v : Value} {l : List UInt8} (h : TxtN w v l) (hb : Below w.heap.size w w') : TxtN w' v l := by
  obtain ⟨a, n, c, e, hc, h0, hr⟩ := h
  exact ⟨a, n, c, e, hc, h0, hr.kept hb⟩

theorem TxtN.own {w : World} {v : Value} {l : List UInt8} (h : w.ownsRow 0 5 1 v l.length (cells l)) : TxtN w v l := by
  rcases h.2 with ⟨rfl, h0⟩ | ⟨g, cap, cur, rfl, _, _, hnc, _⟩
  · have : l = [] := List.eq_nil_of_length_eq_zero h0
    subst this
    exact ⟨none, 0, 0, rfl, Nat.le_refl _, fun _ => rfl, rfl, .inl rfl⟩
  · refine ⟨_, _, _, rfl, hnc, (fun e => by cases e), rfl, .inr ⟨g, 0, rfl, fun j hj => ?_⟩⟩
    have := h.cellAt j (by omega)
    rw [Nat.zero_add, this]
    simp [cells, List.getElem?_eq_getElem hj]

/-- What ZZSplit hands back. -/
def ZOutN (w : World) (v1 v2 : Value) (cs : List (List UInt8 × Nat)) : Prop :=
  ∃ T U m, v1 = .slice (some ⟨T, 0, none⟩) m m ∧ v2 = .slice (some ⟨U, 0, none⟩) m m ∧ cs.length = m ∧
    ∀ i (h : i < cs.length), (∃ tv, w.cell? ⟨T, i, none⟩ = some tv ∧ TxtN w tv (cs[i]).1) ∧ w.cell? ⟨U, i, none⟩ = some (.int .i64 ((cs[i]).2 : Int))

set_option maxHeartbeats 1000000 in
set_option maxRecDepth 100000 in
theorem zzsplitN_any (a : Option Addr) (n c : Nat) (l : List UInt8) (w : World) (hc : n ≤ c) (hn : n ≤ 65536) (h : RB w a n l) :
    Calls Try.prog 11 #[.slice a n c] w fun e w' => (∃ v1 v2, e = .returned (.tuple #[v1, v2]) ∧ ZOutN w' v1 v2 (Plain.split l)) ∧ Below w.heap.size w w' := by
  obtain ⟨i22, hi22, hz22, hs22, hb22⟩ := info_parts info22
  obtain ⟨i3, hi3, hz3, hs3, hb3⟩ := info_parts info3
  have HH : Hid (RB w a n l) := h
  have hsz := Plain.split_size l
  rw [h.1] at hsz
  clear h
  go_enter Try.func11, Try.ntmps11
  go_wp2_with fail
  refine (split_any a n c l _ hc hn HH.out _ rfl).mono ?_
  rintro e w1 ⟨⟨v, rfl, ds, hds, hrow, htx⟩, hb1⟩
  have HDS : Hid (ds.map (·.2) = Plain.split l) := hds
  have hm : ds.length = (Plain.split l).length := by rw [← hds]; simp
  have hm1 : 0 < ds.length := by omega
  have hm2 : ds.length ≤ 65537 := by omega
  obtain ⟨g, cap, rfl⟩ : ∃ g cap, v = .slice (some ⟨g, 0, none⟩) ds.length cap := by
    rcases hrow.2 with ⟨_, h0⟩ | ⟨g, cap, cur, hv, _⟩
    · omega
    · exact ⟨g, cap, hv⟩
  obtain ⟨T, hT⟩ : ∃ T, w1.heap.size = T := ⟨_, rfl⟩
  have hgT : g < T := by rw [← hT]; exact (hrow.lt g rfl).2
  have HR : Hid (w1.ownsRow 0 37 2 (.slice (some ⟨g, 0, none⟩) ds.length cap) ds.length (flat ds)) := hrow
  have HX : Hid (∀ d ∈ ds, w1.ownsRow 0 5 1 d.1 d.2.1.length (cells d.2.1)) := htx
  have HB1 : Hid (Below w.heap.size w w1) := hb1
  clear hds hm hrow htx hb1 hsz
  generalize hmm : ds.length = m at *
  have HMM : Hid (ds.length = m) := hmm
  clear hmm
  go_wp2_with (first
    | (at_make; refine wpList_make_full _ rfl _ _ 27 rfl T 22 i22 (.slice none 0 0) 1 Try.underlying27 hi22 hz22 hs22 _ _ _ _ m rfl rfl rfl rfl (by rw [hb22]; omega) (by unfold maxLen; omega) (by omega) ?_; rw [hT]; intro w2 hown2 hg2; obtain ⟨U, hU⟩ : ∃ U, w2.heap.size = U := ⟨_, rfl⟩; have hTU : T < U := by rw [← hU]; exact (hown2.lt T rfl).2)
    | (at_make; refine wpList_make_full _ rfl _ _ 28 rfl T 3 i3 (.int .i64 0) 1 Try.underlying28 hi3 hz3 hs3 _ _ _ _ m rfl rfl rfl rfl (by rw [hb3]; omega) (by unfold maxLen; omega) (by omega) ?_; rw [hU]; intro w3 hown3 hg3))
  have HF1 : Hid (Filled w3 T T 22 m (fun j => (ds.getD j (.slice none 0 0, [], 0)).1) 0) := Filled.kept ⟨_, hown2, fun j hj => by omega⟩ hg3
  have HF2 : Hid (Filled w3 T U 3 m (fun j => .int .i64 ((ds.getD j (.slice none 0 0, [], 0)).2.2 : Int)) 0) := ⟨_, hown3, fun j hj => by omega⟩
  have HB3 : Hid (Below T w1 w3) := ((Below.refl T w1).grown hg2 (by omega) (fun k hk => by cases hk)).grown hg3 (by omega) (fun k hk => by cases hk)
  clear hown2 hown3 hg2 hg3
  go_loopw [7] (fun i wr => ∃ k : Nat, k ≤ m ∧ i = .int .i64 k ∧ Hid (Below T w1 wr) ∧ Hid (Filled wr T T 22 m (fun j => (ds.getD j (.slice none 0 0, [], 0)).1) k) ∧ Hid (Filled wr T U 3 m (fun j => .int .i64 ((ds.getD j (.slice none 0 0, [], 0)).2.2 : Int)) k)) (fun i _ => m - (intOf i).toNat)
  case atStart => exact ⟨0, Nat.zero_le _, rfl, HB3, HF1, HF2⟩
  case round =>
    clear HB3 HF1 HF2
    obtain ⟨k, hk, rfl, HB, HF1, HF2⟩ := hrel
    by_cases hlt : k < m
    · have hkl : k < ds.length := by have := HMM.out; omega
      have hfl := flat_at ds k hkl
      have k0 : wr.cell? ⟨g, k * 2, none⟩ = some (ds[k]).1 := by rw [HB.out.cell (p := ⟨g, k * 2, none⟩) hgT, HR.out.cellAt (k * 2) (by omega)]; exact hfl.1
      have k1 : wr.cell? ⟨g, k * 2 + 1, none⟩ = some (.int .i64 ((ds[k]).2.2 : Int)) := by rw [HB.out.cell (p := ⟨g, k * 2 + 1, none⟩) hgT, HR.out.cellAt (k * 2 + 1) (by omega)]; exact hfl.2
      have f0 := HF1.out.free k
      have f1 := HF2.out.free k
      obtain ⟨y0, hy0⟩ := HF1.out.there hlt
      obtain ⟨y1, hy1⟩ := HF2.out.there hlt
      have hne1 : ¬ g = T := by omega
      have hne2 : ¬ g = U := by omega
      have hne3 : ¬ T = U := by omega
      have hne4 : ¬ U = T := by omega
      have hsh := own_shape (HX.out (ds[k]) (List.getElem_mem hkl))
      clear hfl
      generalize hdk : ds[k] = d at *
      have HD : Hid (ds[k]? = some d) := by rw [← hdk]; exact List.getElem?_eq_getElem hkl
      clear hdk
      obtain ⟨dv, dt, dl⟩ := d
      obtain ⟨ta, tn, tc, e⟩ := hsh
      replace e : dv = .slice ta tn tc := e
      subst e
      replace k0 : wr.cell? ⟨g, k * 2, none⟩ = some (.slice ta tn tc) := k0
      replace k1 : wr.cell? ⟨g, k * 2 + 1, none⟩ = some (.int .i64 (dl : Int)) := k1
      have HF1' : Hid (Filled ((wr.setCell ⟨T, k, none⟩ (.slice ta tn tc)).setCell ⟨U, k, none⟩ (.int .i64 (dl : Int))) T T 22 m (fun j => (ds.getD j (.slice none 0 0, [], 0)).1) (k + 1)) := (HF1.out.step hlt (by simp [List.getD, HD.out])).other hne3 _
      have HF2' : Hid (Filled ((wr.setCell ⟨T, k, none⟩ (.slice ta tn tc)).setCell ⟨U, k, none⟩ (.int .i64 (dl : Int))) T U 3 m (fun j => .int .i64 ((ds.getD j (.slice none 0 0, [], 0)).2.2 : Int)) (k + 1)) := (HF2.out.other hne4 _).step hlt (by simp [List.getD, HD.out])
      have HB' : Hid (Below T w1 ((wr.setCell ⟨T, k, none⟩ (.slice ta tn tc)).setCell ⟨U, k, none⟩ (.int .i64 (dl : Int)))) := (HB.out.setCell (p := ⟨T, k, none⟩) (Nat.le_refl _) _).setCell (p := ⟨U, k, none⟩) (Nat.le_of_lt hTU) _
      clear HF1 HF2 HB
      go_wp2
      go_roundw
      case rel => exact ⟨k + 1, by omega, by go_num, HB', HF1', HF2'⟩
      case measure => simp [intOf]; omega
    · have hke : k = m := by omega
      subst hke
      go_wp2
      go_ret2
      refine ⟨⟨_, _, rfl, T, U, k, rfl, rfl, by rw [← HDS.out, ← HMM.out]; simp, ?_⟩, ?_⟩
      · intro i hi
        have hid : i < ds.length := by rw [← HDS.out] at hi; simpa using hi
        have hik : i < k := by have := HMM.out; omega
        have e : (Plain.split l)[i] = (ds[i]).2 := by simp [← HDS.out]
        have hbw : Below w1.heap.size w1 wr := by rw [hT]; exact HB.out
        refine ⟨⟨_, HF1.out.cell (Nat.le_refl _) hik, ?_⟩, ?_⟩
        · rw [e]
          have := TxtN.own (own_later (HX.out (ds[i]) (List.getElem_mem hid)) hbw)
          simpa [List.getD, List.getElem?_eq_getElem hid] using this
        · rw [HF2.out.cell (Nat.le_refl _) hik, e]
          simp [List.getD, List.getElem?_eq_getElem hid]
      · exact HB1.out.trans (HB.out.mono (by have := HB1.out.size; omega))

theorem src_cells {w : World} {a : Option Addr} {n : Nat} {l : List UInt8} (h : RB w a n l) : ∀ ad, a = some ad → ∀ j u, (cells l)[j]? = some u → w.cell? (ad.add j) = some u := by
  intro ad e j u hu
  rcases h.2 with e1 | ⟨b, off, e1, hat⟩
  · subst e1; simp [cells] at hu
  · rw [e1] at e
    cases e
    exact hat.cells j u hu

theorem dashes_new (w : World) : ∀ j u, (cells [45, 45, 45])[j]? = some u → (w.alloc (.cells #[.int .u8 45, .int .u8 45, .int .u8 45] 5)).cell? ((⟨w.heap.size, 0, none⟩ : Addr).add j) = some u := by
  intro j u hj
  match j, hj with
  | 0, hj => simp [cells] at hj; subst hj; simp [Addr.add]
  | 1, hj => simp [cells] at hj; subst hj; simp [Addr.add]
  | 2, hj => simp [cells] at hj; subst hj; simp [Addr.add]

end Go.Proofs.Qxb6600245a
