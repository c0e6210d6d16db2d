/-
  THE STATE of split's loop (seat b6600245a): the finished chunks, the chunk in hand, and what each step does to them. No walk here.
-/
import Derived.Test.Qxb6600245aMem
namespace Go.Proofs.Qxb6600245a
open Go.RowKit

theorem info5 : (Try.prog.info? 5).map (fun i => (i.zero, i.size, i.bytes)) = some (some (.int .u8 0), 1, 1) := by kernel_rfl
theorem info37 : (Try.prog.info? 37).map (fun i => (i.zero, i.size, i.bytes)) = some (some (.agg #[.slice none 0 0, .int .i64 0]), 2, 32) := by kernel_rfl

/-- Bytes as cells. -/
def cells (l : List UInt8) : List Value := l.map fun b => Value.int .u8 (b.toNat : Int)
theorem cells_len (l : List UInt8) : (cells l).length = l.length := by simp [cells]
theorem cells_append (a b : List UInt8) : cells (a ++ b) = cells a ++ cells b := by simp [cells]
theorem cells_one (l : List UInt8) : ∀ u ∈ cells l, u.oneCell' = true := by
  intro u hu
  obtain ⟨b, _, rfl⟩ := List.mem_map.1 hu
  rfl
theorem At.cells {w : World} {b off : Nat} {l : List UInt8} (h : At w b off l) : ∀ j u, (cells l)[j]? = some u → w.cell? ((⟨b, off, none⟩ : Addr).add j) = some u := by
  intro j u hu
  have hj : j < l.length := by
    have := (List.getElem?_eq_some_iff.1 hu).1
    rwa [cells_len] at this
  have e : (⟨b, off, none⟩ : Addr).add j = ⟨b, off + j, none⟩ := by unfold Addr.add; split <;> simp_all
  rw [e, h j hj]
  simp [Qxb6600245a.cells, List.getElem?_eq_getElem hj] at hu
  rw [← hu]

/-- A chunk: its text's value, its text, its line. -/
abbrev Ch := Value × List UInt8 × Nat
def flat (ds : List Ch) : List Value := ds.flatMap fun d => [d.1, .int .i64 (d.2.2 : Int)]
theorem flat_snoc (ds : List Ch) (d : Ch) : flat (ds ++ [d]) = flat ds ++ [d.1, .int .i64 (d.2.2 : Int)] := by simp [flat]

/-- A finished text, its row below N. -/
def Fin (w : World) (N : Nat) (d : Ch) : Prop := w.ownsRow 0 5 1 d.1 d.2.1.length (cells d.2.1) ∧ ∀ k, d.1.ownBlock = some k → k < N

structure St (w wr : World) (K : Nat) (v tv : Value) (ds : List Ch) (t : List UInt8) (ln : Nat) (N : Nat) : Prop where
  box : wr.heap[K]? = some (.cells #[tv, .int .i64 (ln : Int)] 37 (0, 0))
  below : Below K w wr
  row : wr.ownsRow (K + 1) 37 2 v ds.length (flat ds)
  kn : K < N
  nw : N ≤ wr.heap.size
  text : wr.ownsRow N 5 1 tv t.length (cells t)
  fin : ∀ d ∈ ds, Fin wr N d

theorem own_base {w : World} {base base' : Nat} {e : TypeId} {size : Nat} {v : Value} {n : Nat} {xs : List Value} (h : w.ownsRow base e size v n xs) (hb : base' ≤ base) : w.ownsRow base' e size v n xs := by
  refine ⟨h.1, ?_⟩
  rcases h.2 with h2 | ⟨g, cap, cur, hv, hg, r⟩
  · exact .inl h2
  · exact .inr ⟨g, cap, cur, hv, Nat.le_trans hb hg, r⟩

theorem own_ne {w : World} {base : Nat} {e e' : TypeId} {size : Nat} {v : Value} {n : Nat} {xs : List Value} {k : Nat} {C : Array Value} {fr : Nat × Nat} (h : w.ownsRow base e size v n xs)
    (hk : w.heap[k]? = some (.cells C e' fr)) (hne : e ≠ e') : v.ownBlock ≠ some k := by
  intro he
  rcases h.2 with ⟨rfl, _⟩ | ⟨g, cap, cur, rfl, _, hg, _⟩
  · simp [Value.ownBlock] at he
  · simp [Value.ownBlock] at he
    subst he
    rw [hg] at hk
    simp at hk
    exact hne hk.2.1

theorem own_ne_own {w : World} {b1 b2 : Nat} {e e' : TypeId} {s1 s2 : Nat} {v1 v2 : Value} {n1 n2 : Nat} {x1 x2 : List Value} (h : w.ownsRow b1 e s1 v1 n1 x1) (h2 : w.ownsRow b2 e' s2 v2 n2 x2) (hne : e ≠ e') : v1.ownBlock = none ∨ v1.ownBlock ≠ v2.ownBlock := by
  rcases h2.2 with ⟨rfl, _⟩ | ⟨g, cap, cur, rfl, _, hg, _⟩
  · cases hv : v1.ownBlock with
    | none => exact .inl rfl
    | some k => right; simp [Value.ownBlock]
  · right
    exact own_ne h hg hne

theorem grown_of_below {w w' : World} (h : Below w.heap.size w w') : w.grownBy w' none := ⟨h.os, h.tape, h.output, h.size, fun k hk _ => h.block k hk⟩

theorem own_later {w w' : World} {base : Nat} {e : TypeId} {size : Nat} {v : Value} {n : Nat} {xs : List Value} (h : w.ownsRow base e size v n xs) (hb : Below w.heap.size w w') : w'.ownsRow base e size v n xs :=
  h.kept (grown_of_below hb) (by cases hv : v.ownBlock with | none => exact .inl rfl | some k => right; simp)

theorem Fin.later {w w' : World} {N : Nat} {d : Ch} (h : Fin w N d) (hb : Below w.heap.size w w') : Fin w' N d := ⟨own_later h.1 hb, h.2⟩

theorem St.later {w wr w1 : World} {K : Nat} {v tv : Value} {ds : List Ch} {t : List UInt8} {ln N : Nat} (h : St w wr K v tv ds t ln N) (hb : Below wr.heap.size wr w1) : St w w1 K v tv ds t ln N where
  box := by rw [hb.block K (lt_of_block h.box)]; exact h.box
  below := h.below.trans (hb.mono (Nat.le_of_lt (lt_of_block h.box)))
  row := own_later h.row hb
  kn := h.kn
  nw := Nat.le_trans h.nw hb.size
  text := own_later h.text hb
  fin := fun d hd => (h.fin d hd).later hb

theorem St.alloc {w wr : World} {K : Nat} {v tv : Value} {ds : List Ch} {t : List UInt8} {ln N : Nat} (h : St w wr K v tv ds t ln N) (o : Obj) : St w (wr.alloc o) K v tv ds t ln N :=
  h.later ((Below.refl _ wr).alloc (Nat.le_refl _) o)

theorem St.cell0 {w wr : World} {K : Nat} {v tv : Value} {ds : List Ch} {t : List UInt8} {ln N : Nat} (h : St w wr K v tv ds t ln N) : wr.cell? ⟨K, 0, none⟩ = some tv := by simp [World.cell?, h.box]
theorem St.cell1 {w wr : World} {K : Nat} {v tv : Value} {ds : List Ch} {t : List UInt8} {ln N : Nat} (h : St w wr K v tv ds t ln N) : wr.cell? ⟨K, 1, none⟩ = some (.int .i64 (ln : Int)) := by simp [World.cell?, h.box]

/-- The finished chunks alone, the box still there. -/
structure Mid (w wr : World) (K : Nat) (v : Value) (ds : List Ch) : Prop where
  box : ∃ x y, wr.heap[K]? = some (.cells #[x, y] 37 (0, 0))
  below : Below K w wr
  row : wr.ownsRow (K + 1) 37 2 v ds.length (flat ds)
  fin : ∀ d ∈ ds, Fin wr wr.heap.size d

/-- The chunk in hand is appended. -/
theorem St.push {w w1 w2 : World} {K : Nat} {v v' tv : Value} {ds : List Ch} {t : List UInt8} {ln N : Nat} (h : St w w1 K v tv ds t ln N)
    (ho : w2.ownsRow (K + 1) 37 2 v' (ds.length + 1) (flat ds ++ [tv, .int .i64 (ln : Int)])) (hg : w1.grownBy w2 v.ownBlock) : Mid w w2 K v' (ds ++ [(tv, t, ln)]) where
  box := by
    refine ⟨tv, .int .i64 (ln : Int), ?_⟩
    rw [hg.block K (lt_of_block h.box) ?_]
    · exact h.box
    · intro e
      have := (h.row.lt K e.symm).1
      omega
  below := h.below.grown hg (Nat.le_of_lt (lt_of_block h.box)) (fun k hk => by have := (h.row.lt k hk).1; omega)
  row := by
    rw [List.length_append, flat_snoc]
    exact ho
  fin := by
    intro d hd
    rcases List.mem_append.1 hd with hd | hd
    · have hf := h.fin d hd
      refine ⟨hf.1.kept hg (own_ne_own hf.1 h.row (by decide)), fun k hk => ?_⟩
      have := hf.2 k hk
      have := h.nw
      have := hg.size
      omega
    · simp at hd
      subst hd
      have ht := own_base h.text (Nat.zero_le _)
      refine ⟨ht.kept hg (own_ne_own ht h.row (by decide)), fun k hk => ?_⟩
      have := (h.text.lt k hk).2
      have := hg.size
      omega

theorem setCell_first {w : World} {K : Nat} {x y x' : Value} {t : TypeId} (h : w.heap[K]? = some (.cells #[x, y] t (0, 0))) : (w.setCell ⟨K, 0, none⟩ x').heap[K]? = some (.cells #[x', y] t (0, 0)) := by
  have hlt := lt_of_block h
  have h' : w.heap[K] = .cells #[x, y] t (0, 0) := by simpa [Array.getElem?_eq_getElem hlt] using h
  show (w.heap.modify K _)[K]? = _
  rw [Array.getElem?_eq_getElem (by simpa using hlt), Array.getElem_modify_self, h']
  rfl
theorem setCell_second {w : World} {K : Nat} {x y y' : Value} {t : TypeId} (h : w.heap[K]? = some (.cells #[x, y] t (0, 0))) : (w.setCell ⟨K, 1, none⟩ y').heap[K]? = some (.cells #[x, y'] t (0, 0)) := by
  have hlt := lt_of_block h
  have h' : w.heap[K] = .cells #[x, y] t (0, 0) := by simpa [Array.getElem?_eq_getElem hlt] using h
  show (w.heap.modify K _)[K]? = _
  rw [Array.getElem?_eq_getElem (by simpa using hlt), Array.getElem_modify_self, h']
  rfl
theorem setCell_two {w : World} {K : Nat} {x y x' y' : Value} {t : TypeId} (h : w.heap[K]? = some (.cells #[x, y] t (0, 0))) : ((w.setCell ⟨K, 0, none⟩ x').setCell ⟨K, 1, none⟩ y').heap[K]? = some (.cells #[x', y'] t (0, 0)) :=
  setCell_second (setCell_first h)
theorem frozen_box {w : World} {K : Nat} {C : Array Value} {t : TypeId} (h : w.heap[K]? = some (.cells C t (0, 0))) (j : Nat) : w.frozen? ⟨K, j, none⟩ = false := by simp [World.frozen?, h]

theorem own_set {w : World} {base : Nat} {e : TypeId} {size : Nat} {v : Value} {n : Nat} {xs : List Value} {K : Nat} (h : w.ownsRow base e size v n xs) (hne : v.ownBlock ≠ some K) (j : Nat) (u : Value) : (w.setCell ⟨K, j, none⟩ u).ownsRow base e size v n xs :=
  ownsRow_setCell_other h hne u

/-- A new chunk in hand. -/
theorem Mid.fresh {w w2 w3 : World} {K : Nat} {v tv : Value} {ds : List Ch} {t : List UInt8} (ln : Nat) (h : Mid w w2 K v ds) (ho : w3.ownsRow w2.heap.size 5 1 tv t.length (cells t)) (hg : w2.grownBy w3 none) :
    St w ((w3.setCell ⟨K, 0, none⟩ tv).setCell ⟨K, 1, none⟩ (.int .i64 (ln : Int))) K v tv ds t ln w2.heap.size := by
  obtain ⟨x, y, hbox⟩ := h.box
  have hK := lt_of_block hbox
  have hbox3 : w3.heap[K]? = some (.cells #[x, y] 37 (0, 0)) := by rw [hg.block K hK (by simp)]; exact hbox
  have hrow3 : w3.ownsRow (K + 1) 37 2 v ds.length (flat ds) := h.row.kept hg (by cases hv : v.ownBlock with | none => exact .inl rfl | some k => right; simp)
  have hrne : v.ownBlock ≠ some K := fun e => by have := (h.row.lt K e).1; omega
  exact {
    box := setCell_two hbox3
    below := ((h.below.grown hg (Nat.le_of_lt hK) (fun k hk => by cases hk)).setCell (p := ⟨K, 0, none⟩) (Nat.le_refl _) _).setCell (p := ⟨K, 1, none⟩) (Nat.le_refl _) _
    row := own_set (own_set hrow3 hrne 0 _) hrne 1 _
    kn := hK
    nw := by simp; exact hg.size
    text := own_set (own_set ho (own_ne ho hbox3 (by decide)) 0 _) (own_ne ho hbox3 (by decide)) 1 _
    fin := fun d hd => by
      have hf := h.fin d hd
      have h3 : w3.ownsRow 0 5 1 d.1 d.2.1.length (cells d.2.1) := hf.1.kept hg (by cases hv : d.1.ownBlock with | none => exact .inl rfl | some k => right; simp)
      exact ⟨own_set (own_set h3 (own_ne h3 hbox3 (by decide)) 0 _) (own_ne h3 hbox3 (by decide)) 1 _, hf.2⟩ }

/-- The chunk in hand grows. -/
theorem St.grow {w w1 w2 : World} {K : Nat} {v tv tv' : Value} {ds : List Ch} {t x : List UInt8} {ln N : Nat} (h : St w w1 K v tv ds t ln N)
    (ho : w2.ownsRow N 5 1 tv' (t.length + x.length) (cells t ++ cells x)) (hg : w1.grownBy w2 tv.ownBlock) : St w (w2.setCell ⟨K, 0, none⟩ tv') K v tv' ds (t ++ x) ln N := by
  have hK := lt_of_block h.box
  have hkt : some K ≠ tv.ownBlock := fun e => own_ne h.text h.box (by decide) e.symm
  have hbox2 : w2.heap[K]? = some (.cells #[tv, .int .i64 (ln : Int)] 37 (0, 0)) := by rw [hg.block K hK hkt]; exact h.box
  have hrow2 : w2.ownsRow (K + 1) 37 2 v ds.length (flat ds) := h.row.kept hg (own_ne_own h.row h.text (by decide))
  have hrne : v.ownBlock ≠ some K := fun e => by have := (h.row.lt K e).1; omega
  have ho' : w2.ownsRow N 5 1 tv' (t ++ x).length (cells (t ++ x)) := by rw [List.length_append, cells_append]; exact ho
  exact {
    box := setCell_first hbox2
    below := (h.below.grown hg (Nat.le_of_lt hK) (fun k hk => by have := (h.text.lt k hk).1; have := h.kn; omega)).setCell (p := ⟨K, 0, none⟩) (Nat.le_refl _) _
    row := own_set hrow2 hrne 0 _
    kn := h.kn
    nw := by simp; exact Nat.le_trans h.nw hg.size
    text := own_set ho' (own_ne ho' hbox2 (by decide)) 0 _
    fin := fun d hd => by
      have hf := h.fin d hd
      have h2 : w2.ownsRow 0 5 1 d.1 d.2.1.length (cells d.2.1) := hf.1.kept hg (by
        cases hv : d.1.ownBlock with
        | none => exact .inl rfl
        | some k =>
          right
          intro e
          have := hf.2 k hv
          have := (h.text.lt k e.symm).1
          omega)
      exact ⟨own_set h2 (own_ne h2 hbox2 (by decide)) 0 _, hf.2⟩ }

theorem Mid.free {w w2 w3 : World} {K : Nat} {v : Value} {ds : List Ch} (h : Mid w w2 K v ds) (hg : w2.grownBy w3 none) :
    w3.frozen? ⟨K, 0, none⟩ = false ∧ w3.frozen? ⟨K, 1, none⟩ = false ∧ ∃ x y, w3.cell? ⟨K, 0, none⟩ = some x ∧ w3.cell? ⟨K, 1, none⟩ = some y := by
  obtain ⟨x, y, hbox⟩ := h.box
  have hbox3 : w3.heap[K]? = some (.cells #[x, y] 37 (0, 0)) := by rw [hg.block K (lt_of_block hbox) (by simp)]; exact hbox
  exact ⟨frozen_box hbox3 0, frozen_box hbox3 1, x, y, by simp [World.cell?, hbox3], by simp [World.cell?, hbox3]⟩

theorem St.free {w w1 w2 : World} {K : Nat} {v tv : Value} {ds : List Ch} {t : List UInt8} {ln N : Nat} (h : St w w1 K v tv ds t ln N) (hg : w1.grownBy w2 tv.ownBlock) :
    w2.frozen? ⟨K, 0, none⟩ = false ∧ w2.cell? ⟨K, 0, none⟩ = some tv := by
  have hkt : some K ≠ tv.ownBlock := fun e => own_ne h.text h.box (by decide) e.symm
  have hbox2 : w2.heap[K]? = some (.cells #[tv, .int .i64 (ln : Int)] 37 (0, 0)) := by rw [hg.block K (lt_of_block h.box) hkt]; exact h.box
  exact ⟨frozen_box hbox2 0, by simp [World.cell?, hbox2]⟩

theorem Mid.lt {w wr : World} {K : Nat} {v : Value} {ds : List Ch} (h : Mid w wr K v ds) : K < wr.heap.size := by
  obtain ⟨x, y, hbox⟩ := h.box
  exact lt_of_block hbox

/-- What split hands back. -/
def Out (w : World) (v : Value) (cs : List (List UInt8 × Nat)) : Prop :=
  ∃ ds : List Ch, ds.map (·.2) = cs ∧ w.ownsRow 0 37 2 v ds.length (flat ds) ∧ ∀ d ∈ ds, w.ownsRow 0 5 1 d.1 d.2.1.length (cells d.2.1)

theorem Mid.out {w wr : World} {K : Nat} {v : Value} {ds : List Ch} (h : Mid w wr K v ds) : Out wr v (ds.map (·.2)) := ⟨ds, rfl, own_base h.row (Nat.zero_le _), fun d hd => (h.fin d hd).1⟩

theorem two_new (w : World) (x y : Value) (t : TypeId) : ∀ j u, [x, y][j]? = some u → (w.alloc (.cells #[x, y] t)).cell? ((⟨w.heap.size, 0, none⟩ : Addr).add j) = some u := by
  intro j u hj
  match j, hj with
  | 0, hj => simp at hj; subst hj; simp [Addr.add]
  | 1, hj => simp at hj; subst hj; simp [Addr.add]

theorem own_one {w : World} {base : Nat} {e : TypeId} {size : Nat} {v : Value} {n : Nat} {xs : List Value} (h : w.ownsRow base e size v n xs) : v.oneCell' = true := by
  rcases h.2 with ⟨rfl, _⟩ | ⟨g, cap, cur, rfl, _⟩ <;> rfl

theorem own_shape {w : World} {base : Nat} {e : TypeId} {size : Nat} {v : Value} {n : Nat} {xs : List Value} (h : w.ownsRow base e size v n xs) : ∃ a m c, v = .slice a m c := by
  rcases h.2 with ⟨rfl, _⟩ | ⟨g, cap, cur, rfl, _⟩
  · exact ⟨_, _, _, rfl⟩
  · exact ⟨_, _, _, rfl⟩

theorem two_one {x : Value} (hx : x.oneCell' = true) (k : Int) : ∀ u ∈ [x, Value.int .i64 k], u.oneCell' = true := by
  intro u hu
  simp at hu
  rcases hu with rfl | rfl
  · exact hx
  · rfl

theorem St.lt {w wr : World} {K : Nat} {v tv : Value} {ds : List Ch} {t : List UInt8} {ln N : Nat} (h : St w wr K v tv ds t ln N) : K < wr.heap.size := lt_of_block h.box

end Go.Proofs.Qxb6600245a
