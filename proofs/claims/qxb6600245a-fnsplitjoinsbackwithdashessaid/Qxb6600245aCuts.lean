/-
  PLAIN LAW of FnSplitCutsAtMarkerLines (seat b6600245a): the marker lines' places, and the chunks as segments. No Go in sight.
-/
import Derived.Test.Qxb6600245aPlain
namespace Go.Proofs.Qxb6600245a.Plain

/-- A marker line: where it begins, where it ends, its number, is it dashed? -/
abbrev Mk := Nat × Nat × Nat × Bool

def marks : List (List UInt8) → Nat → Nat → List Mk
  | [], _, _ => []
  | x :: r, p, no => if isM 45 x then (p, p + x.length, no, true) :: marks r (p + x.length) (no + 1)
    else if isM 46 x then (p, p + x.length, no, false) :: marks r (p + x.length) (no + 1)
    else marks r (p + x.length) (no + 1)

theorem marks_dash {x : List UInt8} (r : List (List UInt8)) (p no : Nat) (h : isM 45 x = true) : marks (x :: r) p no = (p, p + x.length, no, true) :: marks r (p + x.length) (no + 1) := by
  conv => lhs; unfold marks
  rw [if_pos h]
theorem marks_dot {x : List UInt8} (r : List (List UInt8)) (p no : Nat) (h1 : isM 45 x = false) (h : isM 46 x = true) : marks (x :: r) p no = (p, p + x.length, no, false) :: marks r (p + x.length) (no + 1) := by
  conv => lhs; unfold marks
  rw [h1, if_pos h]; rfl
theorem marks_plain {x : List UInt8} (r : List (List UInt8)) (p no : Nat) (h1 : isM 45 x = false) (h : isM 46 x = false) : marks (x :: r) p no = marks r (p + x.length) (no + 1) := by
  conv => lhs; unfold marks
  rw [h1, h]; rfl

/-- Where the next marker line begins, or the end. -/
def nextOf (N : Nat) : List Mk → Nat
  | [] => N
  | m :: _ => m.1

/-- Where a chunk's text begins. -/
def fromOf (m : Mk) : Nat := if m.2.2.2 then m.1 + 3 else m.2.1
def wantOf (m : Mk) : Nat := if m.2.2.2 then m.2.2.1 else m.2.2.1 + 1

def segs (l : List UInt8) : List Mk → List (List UInt8 × Nat)
  | [] => []
  | m :: r => ((l.take (nextOf l.length r)).drop (fromOf m), wantOf m) :: segs l r

theorem next_cons (N : Nat) (m : Mk) (r : List Mk) : nextOf N (m :: r) = m.1 := rfl
theorem segs_cons (l : List UInt8) (m : Mk) (r : List Mk) : segs l (m :: r) = ((l.take (nextOf l.length r)).drop (fromOf m), wantOf m) :: segs l r := rfl

theorem take_pre (pre x r : List UInt8) (k : Nat) (hk : pre.length + x.length ≤ k) : ((pre ++ (x ++ r)).take k).drop pre.length = x ++ ((pre ++ (x ++ r)).take k).drop (pre.length + x.length) := by
  have e1 : (pre ++ (x ++ r)).take k = (pre ++ x) ++ r.take (k - (pre.length + x.length)) := by
    rw [← List.append_assoc, List.take_append]
    rw [List.take_of_length_le (by simp; omega)]
    simp
  rw [e1, ← List.length_append, List.drop_left, List.append_assoc, List.drop_left]

theorem next_ge (X : List (List UInt8)) : ∀ (p no N : Nat), p + X.flatten.length = N → p ≤ nextOf N (marks X p no) ∧ nextOf N (marks X p no) ≤ N := by
  induction X with
  | nil => intro p no N h; simp at h; simp [marks, nextOf]; omega
  | cons x r ih =>
    intro p no N h
    rw [List.flatten_cons, List.length_append] at h
    have hi := ih (p + x.length) (no + 1) N (by omega)
    unfold marks
    split
    · rw [next_cons]; simp; omega
    · split
      · rw [next_cons]; simp; omega
      · omega

theorem split_segs : ∀ (X : List (List UInt8)) (pre : List UInt8) (n : Nat) (t : List UInt8) (ln : Nat) (l : List UInt8), l = pre ++ X.flatten →
    splitLs X n t ln = (t ++ (l.take (nextOf l.length (marks X pre.length n))).drop pre.length, ln) :: segs l (marks X pre.length n)
  | [], pre, n, t, ln, l, h => by
    subst h
    simp [splitLs, marks, nextOf, segs]
  | x :: r, pre, n, t, ln, l, h => by
    have h' : l = (pre ++ x) ++ r.flatten := by rw [h]; simp
    have hlen : (pre ++ x).length = pre.length + x.length := by simp
    have hN : l.length = pre.length + x.length + r.flatten.length := by rw [h', List.length_append, List.length_append]
    have hge := (next_ge r (pre.length + x.length) (n + 1) l.length (by omega))
    have hl2 : l = pre ++ (x ++ r.flatten) := by rw [h]; simp
    have htp := take_pre pre x r.flatten (nextOf l.length (marks r (pre.length + x.length) (n + 1))) hge.1
    rw [← hl2] at htp
    by_cases h1 : isM 45 x = true
    · rw [step_dash _ _ _ _ h1, marks_dash _ _ _ h1, split_segs r (pre ++ x) (n + 1) (x.drop 3) n l h', hlen]
      have h3 := isM_len h1
      rw [next_cons, segs_cons]
      simp only [fromOf, wantOf, if_true]
      have e0 : (l.take pre.length).drop pre.length = [] := by simp
      have e3 : (l.take (nextOf l.length (marks r (pre.length + x.length) (n + 1)))).drop (pre.length + 3) = x.drop 3 ++ (l.take (nextOf l.length (marks r (pre.length + x.length) (n + 1)))).drop (pre.length + x.length) := by
        rw [← List.drop_drop, htp, List.drop_append_of_le_length h3]
      rw [e0, e3]
      simp
    · have h1' : isM 45 x = false := by simpa using h1
      by_cases h2 : isM 46 x = true
      · rw [step_dot _ _ _ _ h1' h2, marks_dot _ _ _ h1' h2, split_segs r (pre ++ x) (n + 1) [] (n + 1) l h', hlen]
        have e0 : (l.take pre.length).drop pre.length = [] := by simp
        rw [next_cons, segs_cons]
        simp only [fromOf, wantOf]
        rw [e0]
        simp
      · have h2' : isM 46 x = false := by simpa using h2
        rw [step_plain _ _ _ _ h1' h2', marks_plain _ _ _ h1' h2', split_segs r (pre ++ x) (n + 1) (t ++ x) ln l h', hlen, htp, List.append_assoc]

/-- The marker lines of l. -/
def marked (l : List UInt8) : List Mk := marks (lns l) 0 1

theorem cuts (l : List UInt8) : split l = (l.take (nextOf l.length (marked l)), 1) :: segs l (marked l) := by
  have := split_segs (lns l) [] 1 [] 1 l (by simp [lns_flat])
  simpa [split, marked] using this

theorem segs_len (l : List UInt8) : ∀ M : List Mk, (segs l M).length = M.length
  | [] => rfl
  | m :: r => by simp [segs, segs_len l r]

theorem segs_at (l : List UInt8) : ∀ (M : List Mk) (i : Nat) (h : i < M.length), (segs l M)[i]'(by rw [segs_len]; exact h) = ((l.take (nextOf l.length (M.drop (i + 1)))).drop (fromOf M[i]), wantOf M[i])
  | [], i, h => by simp at h
  | m :: r, 0, h => by simp [segs]
  | m :: r, i + 1, h => by
    have := segs_at l r i (by simpa using h)
    simpa [segs] using this

/-- Every mark lies within the text, in order. -/
def MkOk (N : Nat) : Nat → List Mk → Prop
  | _, [] => True
  | p, m :: r => p ≤ m.1 ∧ m.1 ≤ fromOf m ∧ m.1 ≤ m.2.1 ∧ fromOf m ≤ m.2.1 ∧ m.2.1 ≤ N ∧ MkOk N m.2.1 r

theorem ok_weak (N : Nat) : ∀ (M : List Mk) (p q : Nat), p ≤ q → MkOk N q M → MkOk N p M
  | [], _, _, _, _ => trivial
  | _ :: _, _, _, h, hm => ⟨Nat.le_trans h hm.1, hm.2⟩

theorem marks_ok (X : List (List UInt8)) : ∀ (p no N : Nat), p + X.flatten.length = N → MkOk N p (marks X p no) := by
  induction X with
  | nil => intro p no N h; trivial
  | cons x r ih =>
    intro p no N h
    rw [List.flatten_cons, List.length_append] at h
    have hi := ih (p + x.length) (no + 1) N (by omega)
    by_cases h1 : isM 45 x = true
    · rw [marks_dash _ _ _ h1]
      have h3 := isM_len h1
      exact ⟨Nat.le_refl _, by simp [fromOf], by simp, by simp [fromOf]; omega, by simp; omega, hi⟩
    · have h1' : isM 45 x = false := by simpa using h1
      by_cases h2 : isM 46 x = true
      · rw [marks_dot _ _ _ h1' h2]
        exact ⟨Nat.le_refl _, by simp [fromOf], by simp, by simp [fromOf], by simp; omega, hi⟩
      · have h2' : isM 46 x = false := by simpa using h2
        rw [marks_plain _ _ _ h1' h2']
        exact ok_weak N _ p (p + x.length) (by omega) hi

theorem ok_at (N : Nat) : ∀ (M : List Mk) (p i : Nat) (h : i < M.length), MkOk N p M → M[i].1 ≤ N ∧ M[i].2.1 ≤ N ∧ M[i].1 ≤ M[i].2.1 ∧ fromOf M[i] ≤ M[i].2.1 ∧ M[i].2.1 ≤ nextOf N (M.drop (i + 1)) ∧ nextOf N (M.drop (i + 1)) ≤ N
  | [], _, i, h, _ => by simp at h
  | m :: r, p, 0, h, hm => by
    obtain ⟨g1, g2, g3, g4, g5, g6⟩ := hm
    have hr : m.2.1 ≤ nextOf N r ∧ nextOf N r ≤ N := by
      cases r with
      | nil => exact ⟨g5, Nat.le_refl _⟩
      | cons q s => exact ⟨g6.1, Nat.le_trans g6.2.2.1 g6.2.2.2.2.1⟩
    exact ⟨Nat.le_trans g3 g5, g5, g3, g4, hr.1, hr.2⟩
  | m :: r, p, i + 1, h, hm => by
    have := ok_at N r m.2.1 i (by simpa using h) hm.2.2.2.2.2
    simpa using this

theorem marked_ok (l : List UInt8) : MkOk l.length 0 (marked l) := marks_ok (lns l) 0 1 l.length (by simp [lns_flat])

theorem marks_len (X : List (List UInt8)) : ∀ (p no : Nat), (marks X p no).length ≤ X.length := by
  induction X with
  | nil => intro p no; simp [marks]
  | cons x r ih =>
    intro p no
    have := ih (p + x.length) (no + 1)
    unfold marks
    split
    · simp; omega
    · split
      · simp; omega
      · simp; omega

theorem marks_no (X : List (List UInt8)) : ∀ (p no : Nat), ∀ m ∈ marks X p no, m.2.2.1 < no + X.length := by
  induction X with
  | nil => intro p no m hm; simp [marks] at hm
  | cons x r ih =>
    intro p no m hm
    unfold marks at hm
    split at hm
    · rcases List.mem_cons.1 hm with e | hm
      · subst e; simp
      · have := ih _ _ m hm; simp; omega
    · split at hm
      · rcases List.mem_cons.1 hm with e | hm
        · subst e; simp
        · have := ih _ _ m hm; simp; omega
      · have := ih _ _ m hm; simp; omega

/-! ### the law's own scan of a line -/
theorem line_at (l : List UInt8) (e : Nat) (h : e < l.length) : (line (l.drop e)).length = if l[e] = 10 then 1 else (line (l.drop (e + 1))).length + 1 := by
  rw [List.drop_eq_getElem_cons h, line_cons]
  split <;> simp

theorem line_seg (l : List UInt8) (p : Nat) : (l.take (p + (line (l.drop p)).length)).drop p = line (l.drop p) := by
  have h1 := line_take (l.drop p)
  rw [List.drop_take]
  simpa using h1

end Go.Proofs.Qxb6600245a.Plain
