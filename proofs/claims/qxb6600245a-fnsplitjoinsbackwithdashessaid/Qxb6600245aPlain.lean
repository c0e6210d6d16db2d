/-
  PLAIN LAWS for seat b6600245a: lines, markers, split, on lists of bytes; no Go in sight.
-/
import Derived.Lib.IndexLaws
namespace Go.Proofs.Qxb6600245a.Plain

def blank (c : UInt8) : Bool := c == 32 || c == 9 || c == 10 || c == 13

/-- A marker line of three d's standing alone. -/
def isM (d : UInt8) : List UInt8 → Bool
  | [a, b, c] => a == d && b == d && c == d
  | a :: b :: c :: e :: _ => a == d && b == d && c == d && blank e
  | _ => false

/-- The first line, its newline included if it has one. -/
def line : List UInt8 → List UInt8
  | [] => []
  | c :: t => if c = 10 then [10] else c :: line t

theorem line_len (l : List UInt8) : (line l).length ≤ l.length := by
  induction l with
  | nil => simp [line]
  | cons c t ih =>
    unfold line
    split <;> simp <;> omega

theorem line_pos (l : List UInt8) (h : l ≠ []) : 0 < (line l).length := by
  cases l with
  | nil => exact absurd rfl h
  | cons c t => unfold line; split <;> simp

theorem line_take (l : List UInt8) : l.take (line l).length = line l := by
  induction l with
  | nil => simp [line]
  | cons c t ih =>
    unfold line
    split
    · rename_i h; simp [h]
    · simp [ih]

theorem line_ix (l : List UInt8) : (line l).length = if Lib.indexByte l 10 = -1 then l.length else (Lib.indexByte l 10).toNat + 1 := by
  induction l with
  | nil => simp [line, Lib.indexByte]
  | cons c t ih =>
    unfold line Lib.indexByte
    by_cases h : c = 10
    · simp [h]
    · have hg := Lib.indexByte_ge t 10
      simp only [h, if_false, beq_iff_eq, List.length_cons, ih]
      by_cases hn : Lib.indexByte t 10 = -1
      · simp [hn]
      · rw [if_neg hn, if_neg hn, if_neg (by omega)]
        omega

/-- All lines. -/
def lns : List UInt8 → List (List UInt8)
  | [] => []
  | c :: t => if c = 10 then [10] :: lns t else match lns t with
    | [] => [[c]]
    | x :: r => (c :: x) :: r

theorem lns_cons (c : UInt8) (t : List UInt8) : lns (c :: t) = if c = 10 then [10] :: lns t else match lns t with
    | [] => [[c]]
    | x :: r => (c :: x) :: r := rfl

theorem line_cons (c : UInt8) (t : List UInt8) : line (c :: t) = if c = 10 then [10] else c :: line t := rfl

theorem lns_line (l : List UInt8) (h : l ≠ []) : lns l = line l :: lns (l.drop (line l).length) := by
  induction l with
  | nil => exact absurd rfl h
  | cons c t ih =>
    rw [lns_cons, line_cons]
    by_cases hc : c = 10
    · simp [hc]
    · simp only [hc, if_false, List.length_cons, List.drop_succ_cons]
      by_cases ht : t = []
      · subst ht; simp [lns, line]
      · rw [ih ht]

theorem lns_flat (l : List UInt8) : (lns l).flatten = l := by
  induction l with
  | nil => rfl
  | cons c t ih =>
    unfold lns
    by_cases hc : c = 10
    · simp [hc, ih]
    · simp only [hc, if_false]
      cases h : lns t with
      | nil => rw [h] at ih; simp at ih; simp [← ih]
      | cons x r => rw [h] at ih; simp at ih; simp [← ih]

/-- A list of lines as 'lns' makes them: each but the last ends with the one newline that it holds; none is empty. -/
def Proper : List (List UInt8) → Prop
  | [] => True
  | x :: r => (∃ y, (∀ c ∈ y, c ≠ 10) ∧ (x = y ++ [10] ∨ (x = y ∧ y ≠ [] ∧ r = []))) ∧ Proper r

theorem lns_one {y : List UInt8} (h : ∀ c ∈ y, c ≠ 10) (hn : y ≠ []) : lns y = [y] := by
  induction y with
  | nil => exact absurd rfl hn
  | cons c t ih =>
    have hc : c ≠ 10 := h c (by simp)
    unfold lns
    simp only [hc, if_false]
    by_cases ht : t = []
    · subst ht; simp [lns]
    · rw [ih (fun x hx => h x (by simp [hx])) ht]

theorem lns_next {y : List UInt8} (h : ∀ c ∈ y, c ≠ 10) (z : List UInt8) : lns (y ++ 10 :: z) = (y ++ [10]) :: lns z := by
  induction y with
  | nil => simp [lns]
  | cons c t ih =>
    have hc : c ≠ 10 := h c (by simp)
    have := ih (fun x hx => h x (by simp [hx]))
    simp only [List.cons_append]
    conv => lhs; unfold lns
    simp only [hc, if_false, this]

theorem lns_of (X : List (List UInt8)) (h : Proper X) : lns X.flatten = X := by
  induction X with
  | nil => rfl
  | cons x r ih =>
    obtain ⟨⟨y, hy, hx⟩, hr⟩ := h
    rcases hx with hx | ⟨hx, hn, hr0⟩
    · subst hx
      have e : (List.flatten ((y ++ [10]) :: r)) = y ++ 10 :: r.flatten := by simp
      rw [e, lns_next hy, ih hr]
    · subst hx hr0
      simp [lns_one hy hn]

theorem proper_lns (l : List UInt8) : Proper (lns l) := by
  induction l with
  | nil => trivial
  | cons c t ih =>
    unfold lns
    by_cases hc : c = 10
    · simp only [hc, if_true]
      exact ⟨⟨[], by simp, .inl rfl⟩, ih⟩
    · simp only [hc, if_false]
      cases h : lns t with
      | nil => exact ⟨⟨[c], by simpa using hc, .inr ⟨rfl, by simp, rfl⟩⟩, trivial⟩
      | cons x r =>
        rw [h] at ih
        obtain ⟨⟨y, hy, hx⟩, hr⟩ := ih
        refine ⟨⟨c :: y, ?_, ?_⟩, hr⟩
        · intro z hz
          rcases List.mem_cons.1 hz with e | e
          · subst e; exact hc
          · exact hy z e
        · rcases hx with hx | ⟨hx, hn, hr0⟩
          · left; rw [hx]; rfl
          · right; exact ⟨by rw [hx], by simp, hr0⟩

theorem proper_left : ∀ (T X : List (List UInt8)), Proper (T ++ X) → Proper T
  | [], _, _ => trivial
  | x :: r, X, h => by
    obtain ⟨⟨y, hy, hx⟩, hr⟩ := h
    refine ⟨⟨y, hy, ?_⟩, proper_left r X hr⟩
    rcases hx with hx | ⟨hx, hn, hr0⟩
    · exact .inl hx
    · exact .inr ⟨hx, hn, (List.append_eq_nil_iff.1 hr0).1⟩

theorem proper_right : ∀ (T X : List (List UInt8)), Proper (T ++ X) → Proper X
  | [], _, h => h
  | _ :: r, X, h => proper_right r X h.2

/-! ### split -/
/-- What split makes of the lines that are left: the chunk in hand has the text t and the line ln; the next line has the number n. -/
def splitLs : List (List UInt8) → Nat → List UInt8 → Nat → List (List UInt8 × Nat)
  | [], _, t, ln => [(t, ln)]
  | x :: r, n, t, ln => if isM 45 x then (t, ln) :: splitLs r (n + 1) (x.drop 3) n
    else if isM 46 x then (t, ln) :: splitLs r (n + 1) [] (n + 1)
    else splitLs r (n + 1) (t ++ x) ln

def split (l : List UInt8) : List (List UInt8 × Nat) := splitLs (lns l) 1 [] 1

theorem step_dash {x : List UInt8} (r : List (List UInt8)) (n : Nat) (t : List UInt8) (ln : Nat) (h : isM 45 x = true) : splitLs (x :: r) n t ln = (t, ln) :: splitLs r (n + 1) (x.drop 3) n := by
  conv => lhs; unfold splitLs
  rw [if_pos h]
theorem step_dot {x : List UInt8} (r : List (List UInt8)) (n : Nat) (t : List UInt8) (ln : Nat) (h1 : isM 45 x = false) (h : isM 46 x = true) : splitLs (x :: r) n t ln = (t, ln) :: splitLs r (n + 1) [] (n + 1) := by
  conv => lhs; unfold splitLs
  rw [h1, if_pos h]; rfl
theorem step_plain {x : List UInt8} (r : List (List UInt8)) (n : Nat) (t : List UInt8) (ln : Nat) (h1 : isM 45 x = false) (h : isM 46 x = false) : splitLs (x :: r) n t ln = splitLs r (n + 1) (t ++ x) ln := by
  conv => lhs; unfold splitLs
  rw [h1, h]; rfl

theorem split_len (X : List (List UInt8)) : ∀ (n : Nat) (t : List UInt8) (ln : Nat), 1 ≤ (splitLs X n t ln).length ∧ (splitLs X n t ln).length ≤ X.length + 1 := by
  induction X with
  | nil => intro n t ln; simp [splitLs]
  | cons x r ih =>
    intro n t ln
    unfold splitLs
    split
    · have := ih (n + 1) (x.drop 3) n; simp; omega
    · split
      · have := ih (n + 1) [] (n + 1); simp; omega
      · have := ih (n + 1) (t ++ x) ln; simp; omega

theorem lns_len (l : List UInt8) : (lns l).length ≤ l.length := by
  induction l with
  | nil => simp [lns]
  | cons c t ih =>
    rw [lns_cons]
    by_cases hc : c = 10
    · simp [hc]; exact ih
    · simp only [hc, if_false]
      cases h : lns t with
      | nil => simp
      | cons x r => rw [h] at ih; simp at ih ⊢; omega

theorem split_size (l : List UInt8) : 1 ≤ (split l).length ∧ (split l).length ≤ l.length + 1 := by
  have h1 := split_len (lns l) 1 [] 1
  have h2 := lns_len l
  unfold split
  omega

theorem split_head (X : List (List UInt8)) : ∀ (n : Nat) (t : List UInt8) (ln : Nat), ∃ u r, splitLs X n t ln = (u, ln) :: r := by
  induction X with
  | nil => intro n t ln; exact ⟨t, [], rfl⟩
  | cons x r ih =>
    intro n t ln
    unfold splitLs
    split
    · exact ⟨_, _, rfl⟩
    · split
      · exact ⟨_, _, rfl⟩
      · exact ih (n + 1) (t ++ x) ln

theorem split_text (X : List (List UInt8)) : ∀ (n : Nat) (t : List UInt8) (ln : Nat), ∀ c ∈ splitLs X n t ln, c.1.length ≤ t.length + X.flatten.length := by
  induction X with
  | nil => intro n t ln c hc; simp [splitLs] at hc; subst hc; simp
  | cons x r ih =>
    intro n t ln c hc
    unfold splitLs at hc
    split at hc
    · rcases List.mem_cons.1 hc with e | hc
      · subst e; simp
      · have := ih (n + 1) (x.drop 3) n c hc; simp at this ⊢; omega
    · split at hc
      · rcases List.mem_cons.1 hc with e | hc
        · subst e; simp
        · have := ih (n + 1) [] (n + 1) c hc; simp at this ⊢; omega
      · have := ih (n + 1) (t ++ x) ln c hc; simp at this ⊢; omega

theorem text_le (l : List UInt8) (c : List UInt8 × Nat) (h : c ∈ split l) : c.1.length ≤ l.length := by
  have := split_text (lns l) 1 [] 1 c h
  rw [lns_flat] at this
  simpa using this

theorem split_first (l : List UInt8) (h : 0 < (split l).length) : ((split l)[0]).2 = 1 := by
  obtain ⟨u, r, e⟩ := split_head (lns l) 1 [] 1
  have : split l = (u, 1) :: r := e
  simp [this]

/-! #### the line numbers go up -/
def Up : Nat → List (List UInt8 × Nat) → Prop
  | _, [] => True
  | k, c :: r => k ≤ c.2 ∧ Up c.2 r

theorem split_up (X : List (List UInt8)) : ∀ (n : Nat) (t : List UInt8) (ln : Nat), ln ≤ n → Up ln (splitLs X n t ln) := by
  induction X with
  | nil => intro n t ln _; exact ⟨Nat.le_refl _, trivial⟩
  | cons x r ih =>
    intro n t ln h
    unfold splitLs
    split
    · refine ⟨Nat.le_refl _, ?_⟩
      obtain ⟨u, s, e⟩ := split_head r (n + 1) (x.drop 3) n
      have := ih (n + 1) (x.drop 3) n (by omega)
      rw [e] at this ⊢
      exact ⟨h, this.2⟩
    · split
      · refine ⟨Nat.le_refl _, ?_⟩
        obtain ⟨u, s, e⟩ := split_head r (n + 1) [] (n + 1)
        have := ih (n + 1) [] (n + 1) (by omega)
        rw [e] at this ⊢
        exact ⟨by show ln ≤ n + 1; omega, this.2⟩
      · exact ih (n + 1) (t ++ x) ln (by omega)

theorem up_at : ∀ (cs : List (List UInt8 × Nat)) (k i : Nat) (h : i + 1 < cs.length), Up k cs → (cs[i]).2 ≤ (cs[i + 1]).2
  | [], _, _, h, _ => by simp at h
  | [_], _, _, h, _ => by simp at h
  | c :: d :: r, k, 0, _, u => u.2.1
  | c :: d :: r, k, i + 1, h, u => up_at (d :: r) c.2 i (by simp at h ⊢; omega) u.2

/-! #### no chunk holds a marker line -/
def Plainly (x : List UInt8) : Prop := isM 45 x = false ∧ isM 46 x = false

theorem split_none : ∀ (X : List (List UInt8)) (n : Nat) (t : List UInt8) (ln : Nat), (∀ y ∈ X, Plainly y) → splitLs X n t ln = [(t ++ X.flatten, ln)]
  | [], n, t, ln, _ => by simp [splitLs]
  | x :: r, n, t, ln, h => by
    obtain ⟨h1, h2⟩ := h x (by simp)
    unfold splitLs
    rw [h1, h2]
    simp only [Bool.false_eq_true, if_false]
    rw [split_none r (n + 1) (t ++ x) ln (fun y hy => h y (by simp [hy]))]
    simp

theorem isM_form {d : UInt8} {x : List UInt8} (h : isM d x = true) : ∃ r, x = d :: d :: d :: r ∧ (r = [] ∨ ∃ e s, r = e :: s ∧ blank e = true) := by
  match x, h with
  | [a, b, c], h => simp [isM] at h; obtain ⟨⟨rfl, rfl⟩, rfl⟩ := h; exact ⟨[], rfl, .inl rfl⟩
  | a :: b :: c :: e :: s, h => simp [isM] at h; obtain ⟨⟨⟨rfl, rfl⟩, rfl⟩, g⟩ := h; exact ⟨e :: s, rfl, .inr ⟨e, s, rfl, g⟩⟩

theorem isM_not_blank {d e : UInt8} {s : List UInt8} (he : blank e = true) (hd : blank d = false) : isM d (e :: s) = false := by
  cases h : isM d (e :: s) with
  | false => rfl
  | true =>
    obtain ⟨r, hr, _⟩ := isM_form h
    rw [(List.cons.inj hr).1, hd] at he
    cases he

theorem isM_len {d : UInt8} {x : List UInt8} (h : isM d x = true) : 3 ≤ x.length := by
  obtain ⟨r, hr, _⟩ := isM_form h
  rw [hr]; simp

/-- The rest of a dashed marker line, as lines. -/
def restOf (x : List UInt8) : List (List UInt8) := if x.drop 3 = [] then [] else [x.drop 3]

theorem rest_flat (x : List UInt8) : (restOf x).flatten = x.drop 3 := by
  unfold restOf; split <;> simp_all

theorem rest_plain {d : UInt8} {x : List UInt8} (h : isM d x = true) : ∀ y ∈ restOf x, Plainly y := by
  intro y hy
  obtain ⟨r, hx, hr⟩ := isM_form h
  unfold restOf at hy
  subst hx
  simp only [List.drop_succ_cons, List.drop_zero] at hy
  rcases hr with hr | ⟨e, s, hr, he⟩
  · simp [hr] at hy
  · subst hr
    simp at hy
    subst hy
    exact ⟨isM_not_blank he rfl, isM_not_blank he rfl⟩

theorem rest_proper {d : UInt8} (hd : d ≠ 10) {x : List UInt8} {r : List (List UInt8)} (h : isM d x = true) (hp : Proper (x :: r)) : Proper (restOf x ++ r) := by
  obtain ⟨s, hx, _⟩ := isM_form h
  obtain ⟨⟨y, hy, hxy⟩, hr⟩ := hp
  unfold restOf
  subst hx
  simp only [List.drop_succ_cons, List.drop_zero]
  rcases hxy with e | ⟨e, hn, hr0⟩
  · -- it ends with a newline
    match y, hy, e with
    | a :: b :: c :: z, hy, e =>
      have e2 : s = z ++ [10] := by simp at e; exact e.2.2.2
      subst e2
      simp only [List.append_eq_nil_iff, List.cons_ne_nil, and_false, if_false]
      exact ⟨⟨z, fun q hq => hy q (by simp [hq]), .inl rfl⟩, hr⟩
    | [a, b], _, e => simp at e; exact absurd e.2.2.1 hd
    | [a], _, e => simp at e
    | [], _, e => simp at e
  · subst hr0
    by_cases hs : s = []
    · simp [hs, Proper]
    · simp only [hs, if_false]
      refine ⟨⟨s, fun q hq => hy q ?_, .inr ⟨rfl, hs, rfl⟩⟩, trivial⟩
      rw [← e]; simp [hq]

theorem chunk_plain : ∀ (X : List (List UInt8)) (n : Nat) (T : List (List UInt8)) (ln : Nat), Proper (T ++ X) → (∀ y ∈ T, Plainly y) →
    ∀ c ∈ splitLs X n T.flatten ln, ∃ U, c.1 = List.flatten U ∧ Proper U ∧ ∀ y ∈ U, Plainly y
  | [], n, T, ln, hp, ht, c, hc => by
    simp [splitLs] at hc
    subst hc
    exact ⟨T, rfl, by simpa using hp, ht⟩
  | x :: r, n, T, ln, hp, ht, c, hc => by
    unfold splitLs at hc
    by_cases h1 : isM 45 x = true
    · rw [if_pos h1] at hc
      rcases List.mem_cons.1 hc with e | hc
      · subst e; exact ⟨T, rfl, proper_left T _ hp, ht⟩
      · rw [← rest_flat x] at hc
        exact chunk_plain r (n + 1) (restOf x) n (rest_proper (by decide) h1 (proper_right T _ hp)) (rest_plain h1) c hc
    · rw [if_neg h1] at hc
      by_cases h2 : isM 46 x = true
      · rw [if_pos h2] at hc
        rcases List.mem_cons.1 hc with e | hc
        · subst e; exact ⟨T, rfl, proper_left T _ hp, ht⟩
        · exact chunk_plain r (n + 1) [] (n + 1) (proper_right T _ hp).2 (by simp) c hc
      · rw [if_neg h2] at hc
        have e : T.flatten ++ x = (T ++ [x]).flatten := by simp
        rw [e] at hc
        refine chunk_plain r (n + 1) (T ++ [x]) ln (by simpa using hp) ?_ c hc
        intro y hy
        rcases List.mem_append.1 hy with g | g
        · exact ht y g
        · simp at g; subst g; exact ⟨by simpa using h1, by simpa using h2⟩

theorem again (l : List UInt8) (c : List UInt8 × Nat) (h : c ∈ split l) : split c.1 = [(c.1, 1)] := by
  obtain ⟨U, e, hp, hu⟩ := chunk_plain (lns l) 1 [] 1 (proper_lns l) (by simp) c h
  unfold split
  rw [e, lns_of U hp, split_none U 1 [] 1 hu]
  simp

/-! #### joined back -/
def join : List (List UInt8) → List UInt8
  | [] => []
  | t :: r => t ++ (r.map ([45, 45, 45] ++ ·)).flatten

theorem join_cons (t : List UInt8) (r : List (List UInt8)) (h : r ≠ []) : join (t :: r) = t ++ [45, 45, 45] ++ join r := by
  cases r with
  | nil => exact absurd rfl h
  | cons u s => simp [join]

theorem split_join : ∀ (X : List (List UInt8)) (n : Nat) (t : List UInt8) (ln : Nat), (∀ y ∈ X, isM 46 y = false) → join ((splitLs X n t ln).map (·.1)) = t ++ X.flatten
  | [], n, t, ln, _ => by simp [splitLs, join]
  | x :: r, n, t, ln, h => by
    have hr : ∀ y ∈ r, isM 46 y = false := fun y hy => h y (by simp [hy])
    unfold splitLs
    by_cases h1 : isM 45 x = true
    · rw [if_pos h1, List.map_cons, join_cons _ _ (by obtain ⟨u, s, e⟩ := split_head r (n + 1) (x.drop 3) n; rw [e]; simp), split_join r (n + 1) (x.drop 3) n hr]
      obtain ⟨s, hx, _⟩ := isM_form h1
      subst hx
      simp
    · rw [if_neg h1, h x (by simp)]
      simp only [Bool.false_eq_true, if_false]
      rw [split_join r (n + 1) (t ++ x) ln hr]
      simp

end Go.Proofs.Qxb6600245a.Plain
