/-
  PLAIN LAWS for seat b6000755a: what stringLen computes, on lists of bytes; no Go in sight.
-/
import Derived.Lib.IndexLaws
namespace Go.Proofs.Qxb6000755a.Plain

/-- The bytes behind the opening double quote: how many up to and with the closing one. -/
def scan : List UInt8 → Option Nat
  | [] => none
  | [c] => if c = 34 then some 1 else none
  | c :: d :: u => if c = 92 then (scan u).map (· + 2) else if c = 34 then some 1 else (scan (d :: u)).map (· + 1)

theorem scan_plain {c : UInt8} (t : List UInt8) (h1 : c ≠ 92) (h2 : c ≠ 34) : scan (c :: t) = (scan t).map (· + 1) := by
  cases t with
  | nil => simp [scan, h2]
  | cons d u => simp [scan, h1, h2]

theorem scan_quote (t : List UInt8) : scan (34 :: t) = some 1 := by
  cases t with
  | nil => simp [scan]
  | cons d u => simp [scan]

theorem scan_bs (d : UInt8) (u : List UInt8) : scan (92 :: d :: u) = (scan u).map (· + 2) := by simp [scan]

theorem scan_bs_end : scan [92] = none := by simp [scan]

/-- stringLen's answer when its loop stands at i. -/
def qLen (i : Nat) (l : List UInt8) : Int := match scan (l.drop i) with
  | none => -1
  | some n => (i : Int) + n

theorem q_end {i : Nat} {l : List UInt8} (h : l.length ≤ i) : qLen i l = -1 := by
  simp [qLen, List.drop_eq_nil_of_le h, scan]

theorem q_quote {i : Nat} {l : List UInt8} (h : i < l.length) (hc : l[i] = 34) : qLen i l = (i : Int) + 1 := by
  simp [qLen, List.drop_eq_getElem_cons h, hc, scan_quote]

theorem q_plain {i : Nat} {l : List UInt8} (h : i < l.length) (h1 : l[i] ≠ 92) (h2 : l[i] ≠ 34) : qLen i l = qLen (i + 1) l := by
  rw [qLen, List.drop_eq_getElem_cons h, scan_plain _ h1 h2, qLen]
  cases scan (List.drop (i + 1) l) with
  | none => rfl
  | some n => simp; omega

theorem q_bs {i : Nat} {l : List UInt8} (h : i < l.length) (hc : l[i] = 92) : qLen i l = qLen (i + 2) l := by
  rw [qLen, List.drop_eq_getElem_cons h, hc, qLen]
  have e : List.drop (i + 2) l = (List.drop (i + 1) l).drop 1 := by rw [List.drop_drop]
  rw [e]
  cases List.drop (i + 1) l with
  | nil => simp [scan]
  | cons d u =>
    rw [scan_bs]
    simp only [List.drop_succ_cons, List.drop_zero]
    cases scan u with
    | none => rfl
    | some n => simp; omega

/-- What stringLen answers. -/
def strLen (l : List UInt8) : Int :=
  if l.headD 0 = 96 then (if Lib.indexByte l.tail 96 = -1 then -1 else Lib.indexByte l.tail 96 + 2) else qLen 1 l

theorem ix_ge (l : List UInt8) : -1 ≤ Lib.indexByte l 96 := Lib.indexByte_ge l 96

theorem ix_le (l : List UInt8) : Lib.indexByte l 96 ≤ l.length := by
  rcases Int.lt_or_le (Lib.indexByte l 96) 0 with h | h
  · omega
  · obtain ⟨o, ho⟩ := Int.eq_ofNat_of_zero_le h
    have := (Lib.indexByte_some ho).1
    have := (List.getElem?_eq_some_iff.1 this).1
    omega

/-! ### the literal's own length is found -/
def esc (l : List UInt8) : List UInt8 := l.flatMap fun b => if b = 34 ∨ b = 92 then [92, b] else [b]
def unq (l : List UInt8) : List UInt8 := l.filter fun b => b != 96

theorem esc_nil : esc [] = [] := rfl
theorem esc_snoc (l : List UInt8) (b : UInt8) : esc (l ++ [b]) = esc l ++ (if b = 34 ∨ b = 92 then [92, b] else [b]) := by
  simp [esc]
theorem esc_len (l : List UInt8) : (esc l).length ≤ 2 * l.length := by
  induction l with
  | nil => simp [esc]
  | cons b t ih =>
    have e : esc (b :: t) = (if b = 34 ∨ b = 92 then [92, b] else [b]) ++ esc t := by simp [esc]
    rw [e]
    split <;> simp <;> omega
theorem unq_snoc (l : List UInt8) (b : UInt8) : unq (l ++ [b]) = unq l ++ (if b = 96 then [] else [b]) := by
  unfold unq
  rw [List.filter_append]
  by_cases h : b = 96 <;> simp [h]
theorem unq_len (l : List UInt8) : (unq l).length ≤ l.length := List.length_filter_le _ _
theorem unq_not (l : List UInt8) : ∀ x ∈ unq l, x ≠ 96 := by
  intro x hx
  have := (List.mem_filter.1 hx).2
  simpa using this

theorem scan_esc (l rest : List UInt8) : scan (esc l ++ 34 :: rest) = some ((esc l).length + 1) := by
  induction l with
  | nil => simp [esc, scan_quote]
  | cons b t ih =>
    have e : esc (b :: t) = (if b = 34 ∨ b = 92 then [92, b] else [b]) ++ esc t := by simp [esc]
    rw [e]
    by_cases h : b = 34 ∨ b = 92
    · rw [if_pos h]
      simp only [List.cons_append, List.nil_append]
      rw [scan_bs, ih]
      simp
    · rw [if_neg h]
      simp only [List.cons_append, List.nil_append]
      rw [scan_plain _ (fun e => h (.inr e)) (fun e => h (.inl e)), ih]
      simp

theorem ix_first (l rest : List UInt8) (h : ∀ x ∈ l, x ≠ 96) : Lib.indexByte (l ++ 96 :: rest) 96 = l.length := by
  induction l with
  | nil => simp [Lib.indexByte]
  | cons b t ih =>
    have hb : b ≠ 96 := h b (by simp)
    have := ih (fun x hx => h x (by simp [hx]))
    simp only [List.cons_append, Lib.indexByte, this]
    simp [hb]

theorem found_interp (l rest : List UInt8) : strLen (34 :: (esc l ++ 34 :: rest)) = ((esc l).length : Int) + 2 := by
  simp [strLen, qLen, scan_esc]
  omega

theorem found_raw (l rest : List UInt8) : strLen (96 :: (unq l ++ 96 :: rest)) = ((unq l).length : Int) + 2 := by
  have := ix_first (unq l) rest (unq_not l)
  simp [strLen, this]
  first | done | omega

/-! ### the end is an unescaped closer -/
def trail (l : List UInt8) : Nat := (l.reverse.takeWhile (· == 92)).length

theorem trail_snoc (l : List UInt8) (b : UInt8) : trail (l ++ [b]) = if b = 92 then trail l + 1 else 0 := by
  unfold trail
  rw [List.reverse_append]
  simp only [List.reverse_cons, List.reverse_nil, List.nil_append, List.cons_append, List.takeWhile_cons]
  by_cases h : b = 92 <;> simp [h]

theorem tw_all (b c : List UInt8) (h : ∀ x ∈ b, x = 92) : (b ++ c).takeWhile (· == 92) = b ++ c.takeWhile (· == 92) := by
  induction b with
  | nil => rfl
  | cons x t ih =>
    have hx : x = 92 := h x (by simp)
    have := ih (fun y hy => h y (by simp [hy]))
    simp only [List.cons_append, List.takeWhile_cons, this]
    simp [hx]

theorem tw_not (b c : List UInt8) (h : ¬ ∀ x ∈ b, x = 92) : (b ++ c).takeWhile (· == 92) = b.takeWhile (· == 92) := by
  induction b with
  | nil => exact absurd (fun x hx => by cases hx) h
  | cons x t ih =>
    by_cases hx : x = 92
    · have ht : ¬ ∀ y ∈ t, y = 92 := fun g => h (fun y hy => by
        rcases List.mem_cons.1 hy with e | e
        · exact e.trans hx
        · exact g y e)
      simp only [List.cons_append, List.takeWhile_cons, ih ht]
    · simp [hx]

theorem trail_append (a b : List UInt8) : trail (a ++ b) = if ∀ x ∈ b, x = 92 then b.length + trail a else trail b := by
  unfold trail
  rw [List.reverse_append]
  by_cases h : ∀ x ∈ b, x = 92
  · rw [if_pos h, tw_all _ _ (fun x hx => h x (by simpa using hx))]
    simp
  · rw [if_neg h, tw_not _ _ (fun g => h (fun x hx => g x (by simpa using hx)))]

theorem trail_even {tok rest : List UInt8} (h1 : trail tok % 2 = 0) (h2 : trail rest % 2 = 0) : trail (tok ++ rest) % 2 = 0 := by
  rw [trail_append]
  by_cases h : ∀ x ∈ rest, x = 92
  · rw [if_pos h]
    have : trail rest = rest.length := by
      have := trail_append [] rest
      rw [if_pos h] at this
      simpa [trail] using this
    omega
  · rw [if_neg h]; exact h2

theorem scan_spec : ∀ (l : List UInt8) (n : Nat), scan l = some n → 1 ≤ n ∧ n ≤ l.length ∧ l[n - 1]? = some 34 ∧ trail (l.take (n - 1)) % 2 = 0
  | [], n, h => by simp [scan] at h
  | [c], n, h => by
    by_cases hc : c = 34
    · simp [scan, hc] at h; subst h; simp [hc, trail]
    · simp [scan, hc] at h
  | c :: d :: u, n, h => by
    by_cases h1 : c = 92
    · rw [h1, scan_bs] at h
      cases hs : scan u with
      | none => rw [hs] at h; simp at h
      | some m =>
        rw [hs] at h
        simp at h
        subst h
        obtain ⟨g1, g2, g3, g4⟩ := scan_spec u m hs
        obtain ⟨k, rfl⟩ : ∃ k, m = k + 1 := ⟨m - 1, by omega⟩
        refine ⟨by omega, by simp; omega, by simpa using g3, ?_⟩
        have e : List.take (k + 1 + 2 - 1) (c :: d :: u) = [c, d] ++ u.take k := by simp
        rw [e]
        refine trail_even ?_ (by simpa using g4)
        have : trail [c, d] = trail ([c] ++ [d]) := rfl
        rw [this, trail_snoc, h1]
        by_cases hd : d = 92
        · simp [hd, trail]
        · simp [hd]
    · by_cases h2 : c = 34
      · rw [h2, scan_quote] at h
        simp at h
        subst h
        simp [h2, trail]
      · rw [scan_plain _ h1 h2] at h
        cases hs : scan (d :: u) with
        | none => rw [hs] at h; simp at h
        | some m =>
          rw [hs] at h
          simp at h
          subst h
          obtain ⟨g1, g2, g3, g4⟩ := scan_spec (d :: u) m hs
          obtain ⟨k, rfl⟩ : ∃ k, m = k + 1 := ⟨m - 1, by omega⟩
          refine ⟨by omega, by simp at g2 ⊢; omega, by simpa using g3, ?_⟩
          have e : List.take (k + 1 + 1 - 1) (c :: d :: u) = [c] ++ (d :: u).take k := by simp
          rw [e]
          refine trail_even ?_ (by simpa using g4)
          have : trail [c] = trail ([] ++ [c]) := rfl
          rw [this, trail_snoc, if_neg h1]

/-- The run of backslashes that ends at place j, down to place 1. -/
def runTo (l : List UInt8) (j : Nat) : Nat := trail ((l.take (j + 1)).drop 1)

theorem runTo_zero (l : List UInt8) : runTo l 0 = 0 := by
  cases l with
  | nil => simp [runTo, trail]
  | cons x t => simp [runTo, trail]

theorem runTo_succ (l : List UInt8) (j : Nat) (h : j + 1 < l.length) : runTo l (j + 1) = if l[j + 1] = 92 then runTo l j + 1 else 0 := by
  unfold runTo
  rw [List.take_succ_eq_append_getElem h, List.drop_append_of_le_length (by simp; omega), trail_snoc]

theorem runTo_le (l : List UInt8) (j : Nat) : runTo l j ≤ j := by
  induction j with
  | zero => rw [runTo_zero]; omega
  | succ j ih =>
    by_cases h : j + 1 < l.length
    · rw [runTo_succ l j h]
      split <;> omega
    · have e : runTo l (j + 1) = runTo l j := by
        unfold runTo
        rw [List.take_of_length_le (by omega), List.take_of_length_le (by omega)]
      omega

theorem end_spec (l : List UInt8) (h : 0 < l.length) : strLen l = -1 ∨ ∃ k : Nat, strLen l = k ∧ 2 ≤ k ∧ k ≤ l.length ∧
    (l[0] = 96 → l[k - 1]? = some 96 ∧ ∀ i, 1 ≤ i → i < k - 1 → l[i]? ≠ some 96) ∧
    (l[0] ≠ 96 → l[k - 1]? = some 34 ∧ runTo l (k - 2) % 2 = 0) := by
  cases l with
  | nil => simp at h
  | cons x t =>
    by_cases hx : x = 96
    · have e : strLen (x :: t) = if Lib.indexByte t 96 = -1 then -1 else Lib.indexByte t 96 + 2 := by simp [strLen, hx]
      rw [e]
      by_cases hn : Lib.indexByte t 96 = -1
      · left; rw [if_pos hn]
      · right
        rw [if_neg hn]
        have hg := ix_ge t
        obtain ⟨o, ho⟩ := Int.eq_ofNat_of_zero_le (show 0 ≤ Lib.indexByte t 96 by omega)
        have hs := Lib.indexByte_some ho
        have hl := (List.getElem?_eq_some_iff.1 hs.1).1
        refine ⟨o + 2, by omega, by omega, by simp; omega, fun _ => ⟨?_, ?_⟩, fun g => absurd hx g⟩
        · have : o + 2 - 1 = o + 1 := by omega
          rw [this, List.getElem?_cons_succ]; exact hs.1
        · intro i h1 h2
          obtain ⟨j, rfl⟩ : ∃ j, i = j + 1 := ⟨i - 1, by omega⟩
          rw [List.getElem?_cons_succ]
          exact hs.2 j (by omega)
    · have e : strLen (x :: t) = qLen 1 (x :: t) := by simp [strLen, hx]
      rw [e]
      unfold qLen
      rw [List.drop_succ_cons, List.drop_zero]
      cases hs : scan t with
      | none => left; rfl
      | some n =>
        right
        obtain ⟨g1, g2, g3, g4⟩ := scan_spec t n hs
        obtain ⟨m, rfl⟩ : ∃ m, n = m + 1 := ⟨n - 1, by omega⟩
        refine ⟨m + 2, by simp; omega, by omega, by simp; omega, fun g => absurd g hx, fun _ => ⟨?_, ?_⟩⟩
        · have : m + 2 - 1 = m + 1 := by omega
          rw [this, List.getElem?_cons_succ]; simpa using g3
        · have : m + 2 - 2 = m := by omega
          rw [this]
          unfold runTo
          simpa using g4

end Go.Proofs.Qxb6000755a.Plain
