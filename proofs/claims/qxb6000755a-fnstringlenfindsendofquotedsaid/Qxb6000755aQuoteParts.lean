/-
  PARTS of the walk of FnStringLenFindsEndOfQuoted (seat b6000755a).
-/
import Derived.Test.Qxb6000755aWalks
import Derived.Laws.IdiomStrings
import Derived.Maps.AppendAt
namespace Go.Proofs.Qxb6000755a.Quote
open Go.RowKit

theorem info5 : (Try.prog.info? 5).map (fun i => (i.zero, i.size, i.bytes)) = some (some (.int .u8 0), 1, 1) := by kernel_rfl

/-- Bytes as cells. -/
def cells (l : List UInt8) : List Value := l.map fun b => Value.int .u8 (b.toNat : Int)
theorem cells_len (l : List UInt8) : (cells l).length = l.length := by simp [cells]
theorem cells_append (a b : List UInt8) : cells (a ++ b) = cells a ++ cells b := by simp [cells]

theorem zz_yes (s t : ByteArray) (r : Bool) (w : World) (h : s.size ≤ 524288) (h2 : t.size ≤ 524288) :
    Calls Try.prog 14 #[.string s, .string t, .bool r] w fun e w' => e = .returned (.bool true) ∧ w' = w := by
  go_enter Try.func14, Try.ntmps14
  go_wp2
  go_ret
  exact ⟨rfl, rfl⟩

theorem zz_any (s t : ByteArray) (r : Bool) (w : World) (h : s.size ≤ maxLen) (h2 : t.size ≤ maxLen) :
    Calls Try.prog 14 #[.string s, .string t, .bool r] w fun e w' => (∃ b, e = .returned (.bool b)) ∧ w' = w := by
  unfold maxLen at h h2
  go_enter Try.func14, Try.ntmps14
  go_wp2
  all_goals
    go_ret
    exact ⟨⟨_, rfl⟩, rfl⟩

theorem big1 (s t : ByteArray) (r : Bool) (w : World) (h : s.size ≤ maxLen) (h2 : t.size ≤ maxLen) (hb : 524288 < s.size) :
    Calls Try.prog 5 #[.string s, .string t, .bool r] w fun e w' => e = .returned (.bool true) ∧ w' = w := by
  have hm : s.size ≤ 9223372036854775807 := h
  go_enter Try.func5, Try.ntmps5
  go_wp2_with fail
  refine (zz_any _ _ _ _ h h2).mono ?_
  rintro e w' ⟨⟨b, rfl⟩, rfl⟩
  cases b
  all_goals
    go_wp2
    go_ret
    exact ⟨rfl, rfl⟩

theorem big2 (s t : ByteArray) (r : Bool) (w : World) (h : s.size ≤ maxLen) (h2 : t.size ≤ maxLen) (hs : s.size ≤ 524288) (hb : 524288 < t.size) :
    Calls Try.prog 5 #[.string s, .string t, .bool r] w fun e w' => e = .returned (.bool true) ∧ w' = w := by
  have hm : t.size ≤ 9223372036854775807 := h2
  go_enter Try.func5, Try.ntmps5
  go_wp2_with fail
  refine (zz_any _ _ _ _ h h2).mono ?_
  rintro e w' ⟨⟨b, rfl⟩, rfl⟩
  cases b
  all_goals
    go_wp2
    go_ret
    exact ⟨rfl, rfl⟩

theorem take_snoc (s : ByteArray) (k : Nat) (h : k < s.size) : s.data.toList.take (k + 1) = s.data.toList.take k ++ [s[k]] := by
  rw [List.take_succ_eq_append_getElem (by simpa using h)]; rfl

/-- One byte more in the row. -/
theorem own_snoc {w1 : World} {B : Nat} {v : Value} {n : Nat} {l l' : List UInt8} {x : Value} {b : UInt8} (h : w1.ownsRow B 5 1 v n (cells l ++ [x])) (hx : x = .int .u8 (b.toNat : Int)) (hl : l' = l ++ [b]) : w1.ownsRow B 5 1 v n (cells l') := by
  subst hl hx; simpa [cells] using h

theorem one_cell {x : Value} (h : x.oneCell' = true) : ∀ u ∈ [x], u.oneCell' = true := by intro u hu; simp at hu; subst hu; exact h
theorem cells_one (l : List UInt8) : ∀ u ∈ cells l, u.oneCell' = true := by
  intro u hu
  obtain ⟨b, _, rfl⟩ := List.mem_map.1 hu
  rfl

theorem raw_step (l : List UInt8) (b : UInt8) (h : b ≠ 96) : 96 :: Plain.unq (l ++ [b]) = (96 :: Plain.unq l) ++ [b] := by rw [Plain.unq_snoc, if_neg h]; rfl
theorem raw_skip (l : List UInt8) (b : UInt8) (h : b = 96) : Plain.unq (l ++ [b]) = Plain.unq l := by rw [Plain.unq_snoc, if_pos h]; simp

theorem int_two (l : List UInt8) (b : UInt8) (h : b = 34 ∨ b = 92) : 34 :: Plain.esc (l ++ [b]) = ((34 :: Plain.esc l) ++ [92]) ++ [b] := by rw [Plain.esc_snoc, if_pos h]; simp
theorem int_one (l : List UInt8) (b : UInt8) (h : ¬ (b = 34 ∨ b = 92)) : 34 :: Plain.esc (l ++ [b]) = (34 :: Plain.esc l) ++ [b] := by rw [Plain.esc_snoc, if_neg h]; rfl

/-- 'string(whole)'. -/
theorem conv {w : World} {G n cap : Nat} {l : List UInt8} (h : w.ownsRow G 5 1 (.slice (some ⟨G, 0, none⟩) n cap) n (cells l)) :
    (convert 26 9 (.slice (some ⟨G, 0, none⟩) n cap)).run Try.prog w = .ok (.string ⟨l.toArray⟩) w := by
  have hn : l.length = n := by have := h.1; rw [cells_len] at this; omega
  subst hn
  refine run_convert_bytes_back w 26 9 5 ⟨G, 0, none⟩ cap l Try.underlying26 Try.underlying5 Try.underlying9 fun j hj => ?_
  refine h.cells (g := G) rfl j _ ?_
  simp [cells, List.getElem?_eq_getElem hj]

/-- The closing quote is laid. -/
theorem closer {w wr w2 : World} {B n cap : Nat} {l lit : List UInt8} {x : Value} {b : UInt8} {t : TypeId} {c : Array Value} (h : w2.ownsRow B 5 1 (.slice (some ⟨B, 0, none⟩) (n + 1) cap) (n + 1) (cells l ++ [x]))
    (hl : lit = l ++ [b]) (hx : x = .int .u8 (b.toNat : Int)) (hb : Below B w wr) (hg : (wr.alloc (.cells c t)).grownBy w2 (some B)) (hB : w.heap.size = B) :
    w2.ownsRow B 5 1 (.slice (some ⟨B, 0, none⟩) (n + 1) cap) (n + 1) (cells lit) ∧ Hid (lit.length = n + 1) ∧ Below B w w2 ∧ B < w2.heap.size ∧ B ≤ w2.heap.size := by
  have hown2 := own_snoc h hx hl
  have hs := hb.size
  have hlt := (hown2.lt B rfl).2
  refine ⟨hown2, ?_, (hb.alloc (by omega) _).grown hg (by simp; omega) (fun x hx => by cases hx; exact Nat.le_refl _), hlt, by omega⟩
  have := hown2.1
  rw [cells_len] at this
  show _ = _
  omega

theorem lit_raw (s t : List UInt8) : Plain.strLen ((96 :: Plain.unq s ++ [96]) ++ t) = ((96 :: Plain.unq s ++ [96]).length : Int) := by
  have := Plain.found_raw s t
  simp at this ⊢
  rw [this]
  omega

theorem lit_int (s t : List UInt8) : Plain.strLen ((34 :: Plain.esc s ++ [34]) ++ t) = ((34 :: Plain.esc s ++ [34]).length : Int) := by
  have := Plain.found_interp s t
  simp at this ⊢
  rw [this]
  omega

end Go.Proofs.Qxb6000755a.Quote
