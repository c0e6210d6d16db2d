/-
  THE PLAIN LAW for seat b6000859a: percent-escaping as a function over byte lists.
-/
import Derived.Lib.Bytealg
namespace Go.Proofs.Qxb6000859a

def unres (n : Nat) : Bool := (decide (65 ≤ n) && decide (n ≤ 90)) || (decide (97 ≤ n) && decide (n ≤ 122)) || (decide (48 ≤ n) && decide (n ≤ 57)) || n == 45 || n == 46 || n == 95 || n == 126 || n == 64

def hex (n : Nat) : UInt8 := #[48, 49, 50, 51, 52, 53, 54, 55, 56, 57, 65, 66, 67, 68, 69, 70].getD n 0

def enc (c : UInt8) : List UInt8 := if unres c.toNat = true then [c] else [37, hex (c.toNat / 16), hex (c.toNat % 16)]

def esc : List UInt8 → List UInt8
  | [] => []
  | c :: t => enc c ++ esc t

theorem enc_yes {c : UInt8} (h : unres c.toNat = true) : enc c = [c] := by unfold enc; rw [if_pos h]
theorem enc_no {c : UInt8} (h : unres c.toNat = false) : enc c = [37, hex (c.toNat / 16), hex (c.toNat % 16)] := by
  unfold enc; rw [if_neg (by rw [h]; exact Bool.false_ne_true)]

theorem esc_append (a b : List UInt8) : esc (a ++ b) = esc a ++ esc b := by
  induction a with
  | nil => rfl
  | cons c t ih => simp only [List.cons_append, esc, ih, List.append_assoc]

theorem esc_take (l : List UInt8) (k : Nat) (h : k < l.length) : esc (l.take (k + 1)) = esc (l.take k) ++ enc l[k] := by
  rw [List.take_add_one, esc_append, List.getElem?_eq_getElem h]
  simp [esc]

theorem esc_len : ∀ l : List UInt8, l.length ≤ (esc l).length ∧ (esc l).length ≤ 3 * l.length ∧ ∃ m, (esc l).length = l.length + 2 * m
  | [] => ⟨Nat.le_refl _, Nat.le_refl _, 0, rfl⟩
  | c :: t => by
    obtain ⟨h1, h2, m, h3⟩ := esc_len t
    cases hc : unres c.toNat with
    | true =>
      simp only [esc, enc_yes hc, List.length_append, List.length_cons, List.length_nil]
      exact ⟨by omega, by omega, m, by omega⟩
    | false =>
      simp only [esc, enc_no hc, List.length_append, List.length_cons, List.length_nil]
      exact ⟨by omega, by omega, m + 1, by omega⟩

/-- All bytes unreserved: the text is its own escape. -/
theorem esc_self : ∀ l : List UInt8, (∀ c ∈ l, unres c.toNat = true) → esc l = l
  | [], _ => rfl
  | c :: t, h => by
    rw [esc, enc_yes (h c (by simp)), esc_self t (fun x hx => h x (by simp [hx]))]
    rfl

theorem esc_grows (l : List UInt8) (k : Nat) (h : k < l.length) (hc : unres l[k].toNat = false) : l.length < (esc l).length := by
  have e : l = l.take k ++ (l[k] :: l.drop (k + 1)) := by
    rw [← List.drop_eq_getElem_cons h, List.take_append_drop]
  have h1 := (esc_len (l.take k)).1
  have h2 := (esc_len (l.drop (k + 1))).1
  have h3 : (esc l).length = (esc (l.take k)).length + (3 + (esc (l.drop (k + 1))).length) := by
    conv => lhs; rw [e]
    rw [esc_append, esc, enc_no hc]
    simp only [List.length_append, List.length_cons, List.length_nil]
  simp only [List.length_take, List.length_drop] at h1 h2
  omega

theorem esc_ne (l : List UInt8) (k : Nat) (h : k < l.length) (hc : unres l[k].toNat = false) : esc l ≠ l := by
  intro e
  have := esc_grows l k h hc
  rw [e] at this
  omega

theorem hex_ten {n : Nat} (h : n < 10) : (hex n).toNat = 48 + n := by
  match n, h with
  | 0, _ => rfl | 1, _ => rfl | 2, _ => rfl | 3, _ => rfl | 4, _ => rfl
  | 5, _ => rfl | 6, _ => rfl | 7, _ => rfl | 8, _ => rfl | 9, _ => rfl
theorem hex_more {n : Nat} (h : 10 ≤ n) (h2 : n < 16) : (hex n).toNat = 55 + n := by
  match n, h, h2 with
  | 10, _, _ => rfl | 11, _, _ => rfl | 12, _, _ => rfl | 13, _, _ => rfl | 14, _, _ => rfl | 15, _, _ => rfl
  | n + 16, _, h => omega

set_option maxRecDepth 100000 in
theorem index_yes {c : UInt8} (h : 0 ≤ Lib.indexByte [45, 46, 95, 126, 64] c) : unres c.toNat = true := by
  have key : ∀ c : Fin 256, 0 ≤ Lib.indexByte [45, 46, 95, 126, 64] (UInt8.ofFin c) → unres c.val = true := by decide
  have := key c.toFin
  simp at this
  exact this h
set_option maxRecDepth 100000 in
theorem index_no {c : UInt8} (h : Lib.indexByte [45, 46, 95, 126, 64] c < 0) (h1 : ¬ (65 ≤ c.toNat ∧ c.toNat ≤ 90)) (h2 : ¬ (97 ≤ c.toNat ∧ c.toNat ≤ 122)) (h3 : ¬ (48 ≤ c.toNat ∧ c.toNat ≤ 57)) : unres c.toNat = false := by
  have key : ∀ c : Fin 256, Lib.indexByte [45, 46, 95, 126, 64] (UInt8.ofFin c) < 0 → ¬ (65 ≤ c.val ∧ c.val ≤ 90) → ¬ (97 ≤ c.val ∧ c.val ≤ 122) → ¬ (48 ≤ c.val ∧ c.val ≤ 57) → unres c.val = false := by decide
  have := key c.toFin
  simp at this
  exact this h (by omega) (by omega) (by omega)

end Go.Proofs.Qxb6000859a
