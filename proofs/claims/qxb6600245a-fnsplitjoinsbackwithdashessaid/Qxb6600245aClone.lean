/-
  WALKS of zzClone, the three zzBytes and zzHasEndMarkerLine (seat b6600245a).
-/
import Derived.Test.Qxb6600245aState
import Derived.Test.Qxb6600245aTools
import Derived.Lib.SliceRun
namespace Go.Proofs.Qxb6600245a
open Go.RowKit

/-- A slice value that reads as l. -/
def Txt (w : World) (v : Value) (l : List UInt8) : Prop := ∃ a n c, v = .slice a n c ∧ n ≤ c ∧ RB w a n l

theorem Txt.kept {w w' : World} {v : Value} {l : List UInt8} (h : Txt w v l) (hb : Below w.heap.size w w') : Txt w' v l := by
  obtain ⟨a, n, c, e, hc, hr⟩ := h
  exact ⟨a, n, c, e, hc, hr.kept hb⟩

theorem Txt.own {w : World} {v : Value} {l : List UInt8} (h : w.ownsRow 0 5 1 v l.length (cells l)) : Txt w v l := by
  rcases h.2 with ⟨rfl, h0⟩ | ⟨g, cap, cur, rfl, _, _, hnc, _⟩
  · have : l = [] := List.eq_nil_of_length_eq_zero h0
    subst this
    exact ⟨none, 0, 0, rfl, Nat.le_refl _, rfl, .inl rfl⟩
  · refine ⟨_, _, _, rfl, hnc, rfl, .inr ⟨g, 0, rfl, fun j hj => ?_⟩⟩
    have := h.cellAt j (by omega)
    rw [Nat.zero_add, this]
    simp [cells, List.getElem?_eq_getElem hj]

/-- The first k cells of a row of the call's own hold f. -/
def Filled (w : World) (B T e m : Nat) (f : Nat → Value) (k : Nat) : Prop :=
  ∃ xs, w.ownsRow B e 1 (.slice (some ⟨T, 0, none⟩) m m) m xs ∧ ∀ j, j < k → xs[j]? = some (f j)

theorem Filled.step {w : World} {B T e m : Nat} {f : Nat → Value} {k : Nat} (h : Filled w B T e m f k) (hk : k < m) {u : Value} (hu : u = f k) : Filled (w.setCell ⟨T, k, none⟩ u) B T e m f (k + 1) := by
  subst hu
  obtain ⟨xs, ho, hx⟩ := h
  refine ⟨_, (ho.stored k (f k)).1, fun j hj => ?_⟩
  have hl : xs.length = m := by have := ho.1; omega
  by_cases e : j = k
  · subst e; rw [List.getElem?_set_self (by omega)]
  · rw [List.getElem?_set_ne (Ne.symm e)]
    exact hx j (by omega)

theorem Filled.cell {w : World} {B T e m : Nat} {f : Nat → Value} {k : Nat} (h : Filled w B T e m f k) (hk : k ≤ m) {j : Nat} (hj : j < k) : w.cell? ⟨T, j, none⟩ = some (f j) := by
  obtain ⟨xs, ho, hx⟩ := h
  rw [ho.cellAt j (by omega)]
  exact hx j hj

theorem Filled.other {w : World} {B T e m : Nat} {f : Nat → Value} {k : Nat} (h : Filled w B T e m f k) {U j : Nat} (hne : T ≠ U) (u : Value) : Filled (w.setCell ⟨U, j, none⟩ u) B T e m f k := by
  obtain ⟨xs, ho, hx⟩ := h
  exact ⟨xs, ownsRow_setCell_other ho (by simp [Value.ownBlock]; exact hne) u, hx⟩

theorem Filled.free {w : World} {B T e m : Nat} {f : Nat → Value} {k : Nat} (h : Filled w B T e m f k) (j : Nat) : w.frozen? ⟨T, j, none⟩ = false := by
  obtain ⟨xs, ho, _⟩ := h
  exact ho.frozenAt j

theorem Filled.there {w : World} {B T e m : Nat} {f : Nat → Value} {k : Nat} (h : Filled w B T e m f k) {j : Nat} (hj : j < m) : ∃ v, w.cell? ⟨T, j, none⟩ = some v := by
  obtain ⟨xs, ho, _⟩ := h
  have hl : j < xs.length := by have := ho.1; omega
  exact ⟨xs[j], by rw [ho.cellAt j (by omega)]; exact List.getElem?_eq_getElem hl⟩

theorem Filled.kept {w w' : World} {B T e m : Nat} {f : Nat → Value} {k : Nat} (h : Filled w B T e m f k) (hg : w.grownBy w' none) : Filled w' B T e m f k := by
  obtain ⟨xs, ho, hx⟩ := h
  exact ⟨xs, ho.kept hg (.inr (by simp [Value.ownBlock])), hx⟩

theorem clone_nil (n c : Nat) (w : World) :
    Calls Try.prog 8 #[.slice none n c] w fun e w' => e = .returned (.slice none 0 0) ∧ w' = w := by
  have he := fun wx => Lib.run_eql_slice_nil (P := Try.prog) wx 22 5 none n c 0 0 Try.underlying22
  go_enter Try.func8, Try.ntmps8
  go_wp2
  go_ret
  exact ⟨rfl, rfl⟩

theorem clone_empty (x : Addr) (c : Nat) (w : World) :
    Calls Try.prog 8 #[.slice (some x) 0 c] w fun e w' => e = .returned (.slice (some ⟨w.heap.size, 0, none⟩) 0 0) ∧ Below w.heap.size w w' := by
  have he := fun wx => Lib.run_eql_slice_nil (P := Try.prog) wx 22 5 (some x) 0 c 0 0 Try.underlying22
  obtain ⟨i5, hi5, hz5, hs5, hb5⟩ := info_parts info5
  go_enter Try.func8, Try.ntmps8
  go_wp2_with (at_make; refine wpList_make_full _ rfl _ _ 22 rfl w.heap.size 5 i5 (.int .u8 0) 1 Try.underlying22 hi5 hz5 hs5 _ _ _ _ 0 rfl rfl rfl rfl (by rw [hb5]; omega) (by unfold maxLen; omega) (Nat.le_refl _) ?_; intro w1 hown hg; have HB : Hid (Below w.heap.size w w1) := (Below.refl _ w).grown hg (Nat.le_refl _) (fun k hk => by cases hk); clear hown hg)
  refine wp_loop_rounds 1 ?_
  rw [rounds_succ]
  go_wp2
  go_ret
  exact ⟨rfl, HB.out⟩

set_option maxHeartbeats 400000 in
theorem clone_some (b off n c : Nat) (l : List UInt8) (w : World) (hl : l.length = n) (hn : n ≤ 65536) (h0 : 0 < n) (h : At w b off l) :
    Calls Try.prog 8 #[.slice (some ⟨b, off, none⟩) n c] w fun e w' => e = .returned (.slice (some ⟨w.heap.size, 0, none⟩) n n) ∧ At w' w.heap.size 0 l ∧ Below w.heap.size w w' := by
  have he := fun wx => Lib.run_eql_slice_nil (P := Try.prog) wx 22 5 (some ⟨b, off, none⟩) n c 0 0 Try.underlying22
  obtain ⟨i5, hi5, hz5, hs5, hb5⟩ := info_parts info5
  have HA : Hid (At w b off l) := h
  have HL : Hid (l.length = n) := hl
  clear h hl
  go_enter Try.func8, Try.ntmps8
  go_wp2_with (at_make; refine wpList_make_full _ rfl _ _ 22 rfl w.heap.size 5 i5 (.int .u8 0) 1 Try.underlying22 hi5 hz5 hs5 _ _ _ _ n rfl rfl rfl rfl (by rw [hb5]; omega) (by unfold maxLen; omega) (Nat.le_refl _) ?_; intro w1 hown hg; have HB : Hid (Below w.heap.size w w1) := (Below.refl _ w).grown hg (Nat.le_refl _) (fun k hk => by cases hk); have HF : Hid (Filled w1 w.heap.size w.heap.size 5 n (fun j => .int .u8 ((l.getD j 0).toNat : Int)) 0) := ⟨_, hown, fun j hj => by omega⟩; clear hown hg)
  go_loopw [4] (fun i wr => ∃ k : Nat, k ≤ n ∧ i = .int .i64 k ∧ Hid (Below w.heap.size w wr) ∧ Hid (Filled wr w.heap.size w.heap.size 5 n (fun j => .int .u8 ((l.getD j 0).toNat : Int)) k)) (fun i _ => n - (intOf i).toNat)
  case atStart => exact ⟨0, Nat.zero_le _, rfl, HB, HF⟩
  case round =>
    clear HB HF
    obtain ⟨k, hk, rfl, HB, HF⟩ := hrel
    by_cases hlt : k < n
    · have hkl : k < l.length := by have := HL.out; omega
      have k0 : wr.cell? ⟨b, off + k, none⟩ = some (.int .u8 (l[k].toNat : Int)) := cell_later HB.out (HA.out k hkl)
      have f0 := HF.out.free k
      obtain ⟨y, hy⟩ := HF.out.there hlt
      have HF2 : Hid (Filled (wr.setCell ⟨w.heap.size, k, none⟩ (.int .u8 (l[k].toNat : Int))) w.heap.size w.heap.size 5 n (fun j => .int .u8 ((l.getD j 0).toNat : Int)) (k + 1)) := HF.out.step hlt (by simp [List.getD, List.getElem?_eq_getElem hkl])
      have HB2 : Hid (Below w.heap.size w (wr.setCell ⟨w.heap.size, k, none⟩ (.int .u8 (l[k].toNat : Int)))) := HB.out.setCell (p := ⟨w.heap.size, k, none⟩) (Nat.le_refl _) _
      clear HF HB
      go_wp2
      go_roundw
      case rel => exact ⟨k + 1, by omega, by go_num, HB2, HF2⟩
      case measure => simp [intOf]; omega
    · have hke : k = n := by omega
      subst hke
      go_wp2
      go_ret
      refine ⟨rfl, ?_, HB.out⟩
      intro j hj
      have := HL.out
      rw [Nat.zero_add, HF.out.cell (Nat.le_refl _) (by omega)]
      simp [List.getD, List.getElem?_eq_getElem hj]

/-- zzClone: what it hands back reads as its argument did. -/
theorem clone_any (a : Option Addr) (n c : Nat) (l : List UInt8) (w : World) (hn : n ≤ 65536) (h : RB w a n l) :
    Calls Try.prog 8 #[.slice a n c] w fun e w' => (∃ a' c', e = .returned (.slice a' n c') ∧ n ≤ c' ∧ RB w' a' n l) ∧ Below w.heap.size w w' := by
  by_cases h0 : n = 0
  · subst h0
    have hl : l = [] := List.eq_nil_of_length_eq_zero h.1
    subst hl
    cases a with
    | none => exact (clone_nil 0 c w).mono fun e w' ⟨he, hw⟩ => ⟨⟨none, 0, he, Nat.le_refl _, rfl, .inl rfl⟩, hw ▸ Below.refl _ _⟩
    | some x => exact (clone_empty x c w).mono fun e w' ⟨he, hb⟩ => ⟨⟨_, 0, he, Nat.le_refl _, rfl, .inl rfl⟩, hb⟩
  · obtain ⟨b, off, rfl, hat⟩ := h.pos (by omega)
    exact (clone_some b off n c l w h.1 hn (by omega) hat).mono fun e w' ⟨he, ha, hb⟩ => ⟨⟨_, n, he, Nat.le_refl _, h.1, .inr ⟨_, 0, rfl, ha⟩⟩, hb⟩

end Go.Proofs.Qxb6600245a
