/-
  MEMORY PARTS for seat b6600245a: a slice of bytes that can be read.
-/
import Derived.Test.Qxb6600245aRows
import Derived.Test.Qxb6600245aPlain
import Derived.WalkKit
import Derived.WalkSpells
import Derived.Lib.BytesEntry
import Derived.Laws.IdiomStrings
import Derived.Maps.AppendAt
import Derived.Deep.QuietTactic
import Derived.BigQuiet
namespace Go.Proofs.Qxb6600245a
open Go.RowKit

/-- The bytes l lie at block b from off on. -/
def At (w : World) (b off : Nat) (l : List UInt8) : Prop := ∀ j (h : j < l.length), w.cell? ⟨b, off + j, none⟩ = some (.int .u8 (l[j].toNat : Int))

/-- A slice of n bytes reads as l: there is none, or they lie somewhere. -/
def RB (w : World) (a : Option Addr) (n : Nat) (l : List UInt8) : Prop := l.length = n ∧ (l = [] ∨ ∃ b off, a = some ⟨b, off, none⟩ ∧ At w b off l)

theorem At.kept {w w' : World} {b off : Nat} {l : List UInt8} (h : At w b off l) (hb : Below w.heap.size w w') : At w' b off l := fun j hj => cell_later hb (h j hj)
theorem RB.kept {w w' : World} {a : Option Addr} {n : Nat} {l : List UInt8} (h : RB w a n l) (hb : Below w.heap.size w w') : RB w' a n l := by
  refine ⟨h.1, ?_⟩
  rcases h.2 with h | ⟨b, off, e, hc⟩
  · exact .inl h
  · exact .inr ⟨b, off, e, hc.kept hb⟩
theorem RB.pos {w : World} {a : Option Addr} {n : Nat} {l : List UInt8} (h : RB w a n l) (hn : 0 < n) : ∃ b off, a = some ⟨b, off, none⟩ ∧ At w b off l := by
  rcases h.2 with e | g
  · have h1 := h.1; rw [e] at h1; simp at h1; omega
  · exact g

theorem At.drop {w : World} {b off : Nat} {l : List UInt8} (h : At w b off l) (k : Nat) : At w b (off + k) (l.drop k) := by
  intro j hj
  have hl : k + j < l.length := by simp at hj; omega
  have := h (k + j) hl
  rw [Nat.add_assoc]
  simpa using this
theorem At.take {w : World} {b off : Nat} {l : List UInt8} (h : At w b off l) (k : Nat) : At w b off (l.take k) := by
  intro j hj
  have hl : j < l.length := by simp at hj; omega
  have := h j hl
  simpa using this

/-- As numbers. -/
def ints (l : List UInt8) : List Int := l.map fun b => (b.toNat : Int)
theorem ints_len (l : List UInt8) : (ints l).length = l.length := by simp [ints]
theorem bytes_ints (l : List UInt8) : Lib.bytesOf (ints l) = l := by
  unfold Lib.bytesOf ints
  rw [List.map_map]
  exact (List.map_congr_left (fun x _ => by simp)).trans (List.map_id l)
theorem At.nums {w : World} {b off : Nat} {l : List UInt8} (h : At w b off l) : ∀ i, i < l.length → w.cell? ⟨b, off + i, none⟩ = some (.int .u8 ((ints l).getD i 0)) := by
  intro i hi
  rw [h i hi]
  simp [ints, List.getD, List.getElem?_eq_getElem hi]

/-! ### bytes.IndexByte, bytes.Equal, bytes.HasPrefix -/
theorem index_any (b off n c : Nat) (l : List UInt8) (w : World) (hl : l.length = n) (h : At w b off l) :
    Calls Try.prog 21 #[.slice (some ⟨b, off, none⟩) n c, .int .u8 10] w fun e w' => e = .returned (.int .i64 (Lib.indexByte l 10)) ∧ w' = w := by
  have hx := Lib.run_indexByteSlice (P := Try.prog) w b off n c (ints l) (by rw [ints_len, hl]) (by intro i hi; exact h.nums i (by omega)) 10
  rw [bytes_ints] at hx
  go_enter Try.func21, Try.ntmps21
  go_wp2
  rw [run_callFunc_extern Try.func23 (by kernel_rfl) (by kernel_rfl) (by kernel_rfl) (e := Extern.BytealgIndexByte.indexByte) (by kernel_rfl), hx]
  simp only [Result.andThen]
  rw [Oper.upon_value]
  go_wp2
  go_ret
  exact ⟨rfl, rfl⟩

theorem conv_bytes (b off c : Nat) (l : List UInt8) (w : World) (h : At w b off l) :
    (convert 22 9 (.slice (some ⟨b, off, none⟩) l.length c)).run Try.prog w = .ok (.string ⟨l.toArray⟩) w := by
  refine run_convert_bytes_back w 22 9 5 ⟨b, off, none⟩ c l Try.underlying22 Try.underlying5 Try.underlying9 fun j hj => ?_
  have e : (⟨b, off, none⟩ : Addr).add j = ⟨b, off + j, none⟩ := by unfold Addr.add; split <;> simp_all
  rw [e]
  exact h j hj

theorem equal_any (b off c b2 off2 c2 n m : Nat) (l l2 : List UInt8) (w : World) (hn : l.length = n) (hm : l2.length = m) (h : At w b off l) (h2 : At w b2 off2 l2) :
    Calls Try.prog 22 #[.slice (some ⟨b, off, none⟩) n c, .slice (some ⟨b2, off2, none⟩) m c2] w fun e w' => e = .returned (.bool (l == l2)) ∧ w' = w := by
  subst hn hm
  have e1 := conv_bytes b off c l w h
  have e2 := conv_bytes b2 off2 c2 l2 w h2
  go_enter Try.func22, Try.ntmps22
  go_wp2
  go_ret
  exact ⟨rfl, rfl⟩

theorem prefix_short (a : Option Addr) (n c b2 c2 : Nat) (w : World) (hn : n < 3) :
    Calls Try.prog 20 #[.slice a n c, .slice (some ⟨b2, 0, none⟩) 3 c2] w fun e w' => e = .returned (.bool false) ∧ w' = w := by
  go_enter Try.func20, Try.ntmps20
  go_wp2
  go_ret
  exact ⟨rfl, rfl⟩

theorem prefix_long (b off n c b2 c2 : Nat) (l m : List UInt8) (w : World) (hl : l.length = n) (hn : 3 ≤ n) (hc : n ≤ c) (_hc2 : 3 ≤ c2) (hm : m.length = 3) (h : At w b off l) (h2 : At w b2 0 m) :
    Calls Try.prog 20 #[.slice (some ⟨b, off, none⟩) n c, .slice (some ⟨b2, 0, none⟩) 3 c2] w fun e w' => e = .returned (.bool (l.take 3 == m)) ∧ w' = w := by
  have ht : (l.take 3).length = 3 := by simp; omega
  go_enter Try.func20, Try.ntmps20
  go_wp2_with fail
  refine (equal_any b off c b2 0 c2 3 3 (l.take 3) m _ ht hm (h.take 3) h2).mono ?_
  rintro e w' ⟨rfl, rfl⟩
  go_wp2
  go_ret
  exact ⟨rfl, rfl⟩

theorem byte_yes {c : UInt8} {n : Nat} (h : ((c.toNat : Int) == (n : Int)) = true) : c = UInt8.ofNat n := by
  have h2 : (c.toNat : Int) = (n : Int) := by simpa using h
  have h3 : c.toNat = n := by omega
  rw [← h3]; simp
theorem byte_no {c : UInt8} {n : Nat} (hn : n < 256) (h : ((c.toNat : Int) == (n : Int)) = false) : c ≠ UInt8.ofNat n := by
  intro e
  have h2 : c.toNat = n := by rw [e]; simp; omega
  rw [h2] at h; simp at h
theorem beq_byte (c : UInt8) (n : Nat) (hn : n < 256) : (c == UInt8.ofNat n) = ((c.toNat : Int) == (n : Int)) := by
  cases h : ((c.toNat : Int) == (n : Int)) with
  | true => rw [byte_yes h]; simp
  | false => simpa using byte_no hn h

theorem blank_eq (x : UInt8) : Plain.blank x = ((x.toNat : Int) == 32 || (x.toNat : Int) == 9 || (x.toNat : Int) == 10 || (x.toNat : Int) == 13) := by
  have h1 := beq_byte x 32 (by omega)
  have h2 := beq_byte x 9 (by omega)
  have h3 := beq_byte x 10 (by omega)
  have h4 := beq_byte x 13 (by omega)
  show (x == UInt8.ofNat 32 || x == UInt8.ofNat 9 || x == UInt8.ofNat 10 || x == UInt8.ofNat 13) = _
  rw [h1, h2, h3, h4]
  rfl

/-- The five ways through the test for a blank. -/
theorem blank_ways (x : UInt8) :
    ((x.toNat : Int) == 32) = true ∧ Plain.blank x = true ∨
    ((x.toNat : Int) == 32) = false ∧ ((x.toNat : Int) == 9) = true ∧ Plain.blank x = true ∨
    ((x.toNat : Int) == 32) = false ∧ ((x.toNat : Int) == 9) = false ∧ ((x.toNat : Int) == 10) = true ∧ Plain.blank x = true ∨
    ((x.toNat : Int) == 32) = false ∧ ((x.toNat : Int) == 9) = false ∧ ((x.toNat : Int) == 10) = false ∧ ((x.toNat : Int) == 13) = true ∧ Plain.blank x = true ∨
    ((x.toNat : Int) == 32) = false ∧ ((x.toNat : Int) == 9) = false ∧ ((x.toNat : Int) == 10) = false ∧ ((x.toNat : Int) == 13) = false ∧ Plain.blank x = false := by
  rw [blank_eq]
  cases ((x.toNat : Int) == 32) <;> cases ((x.toNat : Int) == 9) <;> cases ((x.toNat : Int) == 10) <;> cases ((x.toNat : Int) == 13) <;> simp

theorem blank_any (x : UInt8) (w : World) :
    Calls Try.prog 19 #[.int .u8 (x.toNat : Int)] w fun e w' => e = .returned (.bool (Plain.blank x)) ∧ w' = w := by
  rcases blank_ways x with ⟨h1, e⟩ | ⟨h1, h2, e⟩ | ⟨h1, h2, h3, e⟩ | ⟨h1, h2, h3, h4, e⟩ | ⟨h1, h2, h3, h4, e⟩
  all_goals
    rw [e]
    clear e
    go_enter Try.func19, Try.ntmps19
    go_wp2
    go_ret
    exact ⟨rfl, rfl⟩

/-! ### isMarker -/
theorem isM_short {d : UInt8} {l : List UInt8} (h : l.length < 3) : Plain.isM d l = false := by
  match l, h with
  | [], _ => rfl
  | [_], _ => rfl
  | [_, _], _ => rfl
  | _ :: _ :: _ :: _, h => simp at h; omega

theorem isM_no {d : UInt8} {l : List UInt8} (h : (l.take 3 == [d, d, d]) = false) : Plain.isM d l = false := by
  match l, h with
  | [], _ => rfl
  | [_], _ => rfl
  | [_, _], _ => rfl
  | [a, b, c], h => simp at h; simp [Plain.isM]; intro x y; exact h x y
  | a :: b :: c :: e :: r, h => simp at h; simp [Plain.isM]; intro x y z; exact absurd z (h x y)

theorem isM_three {d : UInt8} {l : List UInt8} (h : (l.take 3 == [d, d, d]) = true) (hl : l.length = 3) : Plain.isM d l = true := by
  match l, hl, h with
  | [a, b, c], _, h => simp at h; obtain ⟨rfl, rfl, rfl⟩ := h; simp [Plain.isM]

theorem isM_more {d : UInt8} {l : List UInt8} (h : (l.take 3 == [d, d, d]) = true) (hl : 3 < l.length) : Plain.isM d l = Plain.blank l[3] := by
  match l, hl, h with
  | a :: b :: c :: e :: r, _, h => simp at h; obtain ⟨rfl, rfl, rfl⟩ := h; simp [Plain.isM]

/-- '[]byte(m)' at a marker of three. -/
theorem conv_mark (d : UInt8) (w : World) : ∃ w1 C, (convert 9 22 (.string ⟨#[d, d, d]⟩)).run Try.prog w = .ok (.slice (some ⟨w.heap.size, 0, none⟩) 3 C) w1 ∧ 3 ≤ C ∧ At w1 w.heap.size 0 [d, d, d] ∧ Below w.heap.size w w1 := by
  have hcv := run_bytes_of_string (P := Try.prog) w 9 22 5 ⟨#[d, d, d]⟩ Try.underlying9 Try.underlying22 Try.underlying5
  refine ⟨_, _, hcv, grownCap_ge _ _ _ _, ?_, ((Below.refl _ w).drew).alloc (Nat.le_refl _) _⟩
  intro j hj
  rw [Nat.zero_add]
  have e := World.cell?_alloc_mark w.drew (bytesRow ⟨#[d, d, d]⟩ (grownCap w 3 0 5)) 5 ((bytesRow ⟨#[d, d, d]⟩ (grownCap w 3 0 5)).size, (bytesRow ⟨#[d, d, d]⟩ (grownCap w 3 0 5)).size + 1) j
  refine Eq.trans e ?_
  have hj3 : j < 3 := hj
  unfold bytesRow
  rw [Array.getElem?_append_left (by simpa using hj3)]
  match j, hj3 with
  | 0, _ => simp
  | 1, _ => simp
  | 2, _ => simp

set_option maxHeartbeats 400000 in
theorem isMarker_short (d : UInt8) (a : Option Addr) (n c : Nat) (w : World) (hn : n < 3) :
    Calls Try.prog 17 #[.slice a n c, .string ⟨#[d, d, d]⟩] w fun e w' => e = .returned (.bool false) ∧ Below w.heap.size w w' := by
  obtain ⟨w1, C, hcv, hC, hat, hb⟩ := conv_mark d w
  have HB : Hid (Below w.heap.size w w1) := hb
  clear hb hat
  go_enter Try.func17, Try.ntmps17
  go_wp2_with (go_at_call 20; refine (prefix_short a n c _ C _ hn).mono ?_; rintro e w' ⟨rfl, rfl⟩)
  go_ret
  exact ⟨rfl, HB.out⟩

set_option maxHeartbeats 400000 in
theorem isMarker_no (d : UInt8) (b off n c : Nat) (l : List UInt8) (w : World) (hl : l.length = n) (hn : 3 ≤ n) (hc : n ≤ c) (h : At w b off l) (hp : (l.take 3 == [d, d, d]) = false) :
    Calls Try.prog 17 #[.slice (some ⟨b, off, none⟩) n c, .string ⟨#[d, d, d]⟩] w fun e w' => e = .returned (.bool false) ∧ Below w.heap.size w w' := by
  obtain ⟨w1, C, hcv, hC, hat, hb⟩ := conv_mark d w
  have HB : Hid (Below w.heap.size w w1) := hb
  have HA : Hid (At w1 b off l) := h.kept hb
  have HM : Hid (At w1 w.heap.size 0 [d, d, d]) := hat
  have HP : Hid ((l.take 3 == [d, d, d]) = false) := hp
  have HL : Hid (l.length = n) := hl
  clear hb hat h hp hl
  go_enter Try.func17, Try.ntmps17
  go_wp2_with (go_at_call 20; refine (prefix_long b off n c _ C l [d, d, d] _ HL.out hn hc hC rfl HA.out HM.out).mono ?_; rintro e w' ⟨rfl, rfl⟩; rw [HP.out])
  go_ret
  exact ⟨rfl, HB.out⟩

set_option maxHeartbeats 400000 in
theorem isMarker_three (d : UInt8) (b off c : Nat) (l : List UInt8) (w : World) (hl : l.length = 3) (hc : 3 ≤ c) (h : At w b off l) (hp : (l.take 3 == [d, d, d]) = true) :
    Calls Try.prog 17 #[.slice (some ⟨b, off, none⟩) 3 c, .string ⟨#[d, d, d]⟩] w fun e w' => e = .returned (.bool true) ∧ Below w.heap.size w w' := by
  obtain ⟨w1, C, hcv, hC, hat, hb⟩ := conv_mark d w
  have HB : Hid (Below w.heap.size w w1) := hb
  have HA : Hid (At w1 b off l) := h.kept hb
  have HM : Hid (At w1 w.heap.size 0 [d, d, d]) := hat
  have HP : Hid ((l.take 3 == [d, d, d]) = true) := hp
  have HL : Hid (l.length = 3) := hl
  clear hb hat h hp hl
  go_enter Try.func17, Try.ntmps17
  go_wp2_with (go_at_call 20; refine (prefix_long b off 3 c _ C l [d, d, d] _ HL.out (Nat.le_refl _) hc hC rfl HA.out HM.out).mono ?_; rintro e w' ⟨rfl, rfl⟩; rw [HP.out])
  all_goals
    go_ret
    exact ⟨rfl, HB.out⟩

set_option maxHeartbeats 1000000 in
theorem isMarker_more (d : UInt8) (b off n c : Nat) (l : List UInt8) (w : World) (hl : l.length = n) (hn : 3 < n) (hc : n ≤ c) (h : At w b off l) (hp : (l.take 3 == [d, d, d]) = true) (x : UInt8) (hx : ∀ h : 3 < l.length, l[3] = x) :
    Calls Try.prog 17 #[.slice (some ⟨b, off, none⟩) n c, .string ⟨#[d, d, d]⟩] w fun e w' => e = .returned (.bool (Plain.blank x)) ∧ Below w.heap.size w w' := by
  obtain ⟨w1, C, hcv, hC, hat, hb⟩ := conv_mark d w
  have HB : Hid (Below w.heap.size w w1) := hb
  have HA : Hid (At w1 b off l) := h.kept hb
  have HM : Hid (At w1 w.heap.size 0 [d, d, d]) := hat
  have HP : Hid ((l.take 3 == [d, d, d]) = true) := hp
  have HL : Hid (l.length = n) := hl
  have hcell : w1.cell? ⟨b, off + 3, none⟩ = some (.int .u8 (x.toNat : Int)) := by
    rw [HA.out 3 (by omega), hx (by omega)]
  have hne : ¬ c = 3 := by omega
  have hz : (((n - 3 : Nat) : Int) == 0) = false := beq_eq_false_iff_ne.2 (by omega)
  clear hb hat h hp hl hx
  rcases blank_ways x with ⟨h1, e⟩ | ⟨h1, h2, e⟩ | ⟨h1, h2, h3, e⟩ | ⟨h1, h2, h3, h4, e⟩ | ⟨h1, h2, h3, h4, e⟩
  all_goals
    rw [e]
    clear e
    go_enter Try.func17, Try.ntmps17
    go_wp2_with (go_at_call 20; refine (prefix_long b off n c _ C l [d, d, d] _ HL.out (by omega) hc hC rfl HA.out HM.out).mono ?_; rintro e w' ⟨rfl, rfl⟩; rw [HP.out])
    go_ret
    exact ⟨rfl, HB.out⟩

theorem isMarker_any (d : UInt8) (a : Option Addr) (n c : Nat) (l : List UInt8) (w : World) (hc : n ≤ c) (h : RB w a n l) :
    Calls Try.prog 17 #[.slice a n c, .string ⟨#[d, d, d]⟩] w fun e w' => e = .returned (.bool (Plain.isM d l)) ∧ Below w.heap.size w w' := by
  by_cases hn : n < 3
  · rw [isM_short (by rw [h.1]; exact hn)]
    exact isMarker_short d a n c w hn
  · obtain ⟨b, off, rfl, hat⟩ := h.pos (by omega)
    cases hp : (l.take 3 == [d, d, d]) with
    | false =>
      rw [isM_no hp]
      exact isMarker_no d b off n c l w h.1 (by omega) hc hat hp
    | true =>
      by_cases h3 : n = 3
      · subst h3
        rw [isM_three hp h.1]
        exact isMarker_three d b off c l w h.1 hc hat hp
      · have h4 : 3 < l.length := by rw [h.1]; omega
        rw [isM_more hp h4]
        exact isMarker_more d b off n c l w h.1 (by omega) hc hat hp l[3] (fun _ => rfl)

end Go.Proofs.Qxb6600245a
