/-
  PARTS that the three laws share (seat b6600245a): the sizes' guards, what the argument reads as.
-/
import Derived.Test.Qxb6600245aZZSplit
import Derived.OpenShut
namespace Go.Proofs.Qxb6600245a
open Go.RowKit

/-- A bool is handed back. -/
def Boo (e : Ending) : Prop := ∃ b, e = .returned (.bool b)

theorem zz_cuts (a : Option Addr) (n c : Nat) (w : World) (h : n ≤ 65536) :
    Calls Try.prog 10 #[.slice a n c] w fun e w' => e = .returned (.bool true) ∧ w' = w := by
  go_enter Try.func10, Try.ntmps10
  go_wp2
  go_ret
  exact ⟨rfl, rfl⟩

theorem zz_cuts_any (a : Option Addr) (n c : Nat) (w : World) (h : n ≤ maxLen) :
    Calls Try.prog 10 #[.slice a n c] w fun e w' => Boo e ∧ w' = w := by
  unfold maxLen at h
  go_enter Try.func10, Try.ntmps10
  go_wp2
  all_goals
    go_ret
    exact ⟨⟨_, rfl⟩, rfl⟩

theorem zz_joins (a : Option Addr) (n c : Nat) (w : World) (h : n ≤ 65536) :
    Calls Try.prog 14 #[.slice a n c] w fun e w' => e = .returned (.bool true) ∧ w' = w := by
  go_enter Try.func14, Try.ntmps14
  go_wp2
  go_ret
  exact ⟨rfl, rfl⟩

theorem zz_joins_any (a : Option Addr) (n c : Nat) (w : World) (h : n ≤ maxLen) :
    Calls Try.prog 14 #[.slice a n c] w fun e w' => Boo e ∧ w' = w := by
  unfold maxLen at h
  go_enter Try.func14, Try.ntmps14
  go_wp2
  all_goals
    go_ret
    exact ⟨⟨_, rfl⟩, rfl⟩

theorem zz_holds (a : Option Addr) (n c : Nat) (w : World) (h : n ≤ 65536) :
    Calls Try.prog 16 #[.slice a n c] w fun e w' => e = .returned (.bool true) ∧ w' = w := by
  go_enter Try.func16, Try.ntmps16
  go_wp2
  go_ret
  exact ⟨rfl, rfl⟩

theorem zz_holds_any (a : Option Addr) (n c : Nat) (w : World) (h : n ≤ maxLen) :
    Calls Try.prog 16 #[.slice a n c] w fun e w' => Boo e ∧ w' = w := by
  unfold maxLen at h
  go_enter Try.func16, Try.ntmps16
  go_wp2
  all_goals
    go_ret
    exact ⟨⟨_, rfl⟩, rfl⟩

theorem byte_of {z : Int} (h : (Lit.int .u8 z).wf = true) : ((UInt8.ofNat z.toNat).toNat : Int) = z := by
  have hb := bounds_u8 h
  simp
  omega

/-- The frame's reading of the argument, as bytes. -/
theorem rb_of_row {w : World} {a : Option Addr} {len cap : Nat} {zs : List Int}
    (h : (a = none ∧ len = 0 ∧ cap = 0 ∧ zs = []) ∨ ∃ x, a = some x ∧ len ≤ cap ∧ cap ≤ maxLen ∧ zs.length = cap ∧ (∀ i, i < zs.length → w.cell? (x.add i) = some (.int .u8 (zs.getD i 0))) ∧ ∀ n ∈ zs, (Lit.int .u8 n).wf = true) :
    ∃ l, RB w a len l ∧ len ≤ cap ∧ len ≤ maxLen := by
  rcases h with ⟨rfl, rfl, rfl, rfl⟩ | ⟨x, rfl, hl, hm, hz, hc, hw⟩
  · exact ⟨[], ⟨rfl, .inl rfl⟩, Nat.le_refl _, Nat.zero_le _⟩
  · by_cases h0 : len = 0
    · subst h0; exact ⟨[], ⟨rfl, .inl rfl⟩, hl, Nat.zero_le _⟩
    · obtain ⟨b, off, rfl, hat⟩ := ints_at hc (by omega)
      refine ⟨(zs.take len).map fun z => UInt8.ofNat z.toNat, ⟨by simp; omega, .inr ⟨b, off, rfl, ?_⟩⟩, hl, Nat.le_trans hl hm⟩
      intro j hj
      have hj2 : j < len ∧ j < zs.length := by simp at hj; omega
      rw [hat j hj2.2]
      have e : zs.getD j 0 = zs[j]'hj2.2 := by simp [List.getD, List.getElem?_eq_getElem hj2.2]
      rw [e]
      have := byte_of (hw (zs[j]'hj2.2) (List.getElem_mem _))
      simp only [List.getElem_map, List.getElem_take]
      rw [this]

/-- A call that only draws, inside a region that only reads. -/
theorem quiet_of_draws {P : Program} {f : FuncId} {args : Array Value} {w : World} {n : Nat} {v : Value}
    (h : Calls P f args (w.drewN n) fun e w' => e = .returned v ∧ ∃ q, w' = (w.drewN n).drewN q) : Calls P f args (w.drewN n) fun e w'' => e = .returned v ∧ ∃ m, w'' = w.drewN m :=
  h.mono fun _ _ ⟨he, q, hq⟩ => ⟨he, n + q, by rw [hq]; simp⟩

theorem below_drewN {B : Nat} {a w : World} (h : Below B a w) : ∀ n : Nat, Below B a (w.drewN n)
  | 0 => h
  | n + 1 => (below_drewN h n).drew

end Go.Proofs.Qxb6600245a
