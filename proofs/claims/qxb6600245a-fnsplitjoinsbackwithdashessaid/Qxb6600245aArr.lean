/-
  THE FOUR ARRAYS of FnSplitCutsAtMarkerLines (seat b6600245a): three of ints, one of bools, no two in one row. No walk here.
-/
import Derived.Test.Qxb6600245aLawParts
import Derived.Test.Qxb6600245aCuts
namespace Go.Proofs.Qxb6600245a
open Go.RowKit

theorem info4 : (Try.prog.info? 4).map (fun i => (i.zero, i.size, i.bytes)) = some (some (.bool false), 1, 1) := by kernel_rfl

theorem hid {p : Prop} (h : p) : Hid p := h

def nums (l : List Nat) : List Value := l.map fun (k : Nat) => Value.int .i64 (k : Int)
def bools (l : List Bool) : List Value := l.map Value.bool

/-- Two slices of the call's own do not share a row. -/
def Apart (v u : Value) : Prop := ∀ k, v.ownBlock = some k → u.ownBlock ≠ some k

structure Arr (B : Nat) (w : World) (v1 v2 v3 v4 : Value) (l1 l2 l3 : List Nat) (l4 : List Bool) : Prop where
  r1 : w.ownsRow B 3 1 v1 l1.length (nums l1)
  r2 : w.ownsRow B 3 1 v2 l2.length (nums l2)
  r3 : w.ownsRow B 3 1 v3 l3.length (nums l3)
  r4 : w.ownsRow B 4 1 v4 l4.length (bools l4)
  a12 : Apart v1 v2
  a13 : Apart v1 v3
  a23 : Apart v2 v3

theorem Apart.symm {v u : Value} (h : Apart v u) : Apart u v := fun k hk hv => h k hv hk

theorem Arr.rot {B : Nat} {w : World} {v1 v2 v3 v4 : Value} {l1 l2 l3 : List Nat} {l4 : List Bool} (h : Arr B w v1 v2 v3 v4 l1 l2 l3 l4) : Arr B w v2 v3 v1 v4 l2 l3 l1 l4 :=
  ⟨h.r2, h.r3, h.r1, h.r4, h.a23, h.a12.symm, h.a13.symm⟩

theorem kept_apart {w w' : World} {base : Nat} {e : TypeId} {size : Nat} {v u : Value} {n : Nat} {xs : List Value} (h : w.ownsRow base e size u n xs) (hg : w.grownBy w' v.ownBlock) (ha : Apart v u) : w'.ownsRow base e size u n xs :=
  h.kept hg (by
    cases hu : u.ownBlock with
    | none => exact .inl rfl
    | some k => right; intro e; exact ha k e.symm hu)

theorem apart_new {w : World} {base : Nat} {e : TypeId} {size : Nat} {v v' u : Value} {n : Nat} {xs : List Value} (hu : w.ownsRow base e size u n xs) (ha : Apart v u) (hat : v'.ownBlock = v.ownBlock ∨ v'.ownBlock = some w.heap.size) : Apart v' u := by
  intro k hk hku
  rcases hat with e | e
  · exact ha k (e ▸ hk) hku
  · rw [e] at hk
    have := (hu.lt k hku).2
    simp at hk
    omega

theorem Arr.push {B : Nat} {w w' : World} {v1 v2 v3 v4 v1' : Value} {l1 l2 l3 : List Nat} {l4 : List Bool} {x : Nat} (h : Arr B w v1 v2 v3 v4 l1 l2 l3 l4)
    (ho : w'.ownsRow B 3 1 v1' (l1.length + 1) (nums l1 ++ [.int .i64 (x : Int)])) (hg : w.grownBy w' v1.ownBlock) (hat : v1'.ownBlock = v1.ownBlock ∨ v1'.ownBlock = some w.heap.size) :
    Arr B w' v1' v2 v3 v4 (l1 ++ [x]) l2 l3 l4 where
  r1 := by rw [List.length_append]; simpa [nums] using ho
  r2 := kept_apart h.r2 hg h.a12
  r3 := kept_apart h.r3 hg h.a13
  r4 := h.r4.kept hg (own_ne_own h.r4 h.r1 (by decide))
  a12 := apart_new h.r2 h.a12 hat
  a13 := apart_new h.r3 h.a13 hat
  a23 := h.a23

theorem Arr.pushB {B : Nat} {w w' : World} {v1 v2 v3 v4 v4' : Value} {l1 l2 l3 : List Nat} {l4 : List Bool} {x : Bool} (h : Arr B w v1 v2 v3 v4 l1 l2 l3 l4)
    (ho : w'.ownsRow B 4 1 v4' (l4.length + 1) (bools l4 ++ [.bool x])) (hg : w.grownBy w' v4.ownBlock) : Arr B w' v1 v2 v3 v4' l1 l2 l3 (l4 ++ [x]) where
  r1 := h.r1.kept hg (own_ne_own h.r1 h.r4 (by decide))
  r2 := h.r2.kept hg (own_ne_own h.r2 h.r4 (by decide))
  r3 := h.r3.kept hg (own_ne_own h.r3 h.r4 (by decide))
  r4 := by rw [List.length_append]; simpa [bools] using ho
  a12 := h.a12
  a13 := h.a13
  a23 := h.a23

theorem Arr.later {B : Nat} {w w' : World} {v1 v2 v3 v4 : Value} {l1 l2 l3 : List Nat} {l4 : List Bool} (h : Arr B w v1 v2 v3 v4 l1 l2 l3 l4) (hb : Below w.heap.size w w') : Arr B w' v1 v2 v3 v4 l1 l2 l3 l4 :=
  ⟨own_later h.r1 hb, own_later h.r2 hb, own_later h.r3 hb, own_later h.r4 hb, h.a12, h.a13, h.a23⟩

theorem Arr.alloc {B : Nat} {w : World} {v1 v2 v3 v4 : Value} {l1 l2 l3 : List Nat} {l4 : List Bool} (h : Arr B w v1 v2 v3 v4 l1 l2 l3 l4) (o : Obj) : Arr B (w.alloc o) v1 v2 v3 v4 l1 l2 l3 l4 :=
  h.later ((Below.refl _ w).alloc (Nat.le_refl _) o)

/-- One int more in the first array, the arrays turned round; the frame below B. -/
theorem Arr.step {B : Nat} {w0 w w' : World} {v1 v2 v3 v4 v1' : Value} {l1 l2 l3 : List Nat} {l4 : List Bool} {x : Nat} {o : Obj} (h : Arr B w v1 v2 v3 v4 l1 l2 l3 l4) (hb : Below B w0 w) (hB : B ≤ w.heap.size)
    (ho : w'.ownsRow B 3 1 v1' (l1.length + 1) (nums l1 ++ [.int .i64 (x : Int)])) (hg : (w.alloc o).grownBy w' v1.ownBlock) (hat : v1'.ownBlock = v1.ownBlock ∨ v1'.ownBlock = some (w.alloc o).heap.size) :
    Hid (Arr B w' v2 v3 v1' v4 l2 l3 (l1 ++ [x]) l4) ∧ Hid (Below B w0 w') ∧ B ≤ w'.heap.size := by
  have ha := h.alloc o
  have hs : B ≤ (w.alloc o).heap.size := Nat.le_trans hB (by simp)
  exact ⟨(ha.push ho hg hat).rot, (hb.alloc hB o).grown hg hs (fun k hk => (ha.r1.lt k hk).1), Nat.le_trans hs hg.size⟩

theorem Arr.stepB {B : Nat} {w0 w w' : World} {v1 v2 v3 v4 v4' : Value} {l1 l2 l3 : List Nat} {l4 : List Bool} {x : Bool} {o : Obj} (h : Arr B w v1 v2 v3 v4 l1 l2 l3 l4) (hb : Below B w0 w) (hB : B ≤ w.heap.size)
    (ho : w'.ownsRow B 4 1 v4' (l4.length + 1) (bools l4 ++ [.bool x])) (hg : (w.alloc o).grownBy w' v4.ownBlock) :
    Hid (Arr B w' v1 v2 v3 v4' l1 l2 l3 (l4 ++ [x])) ∧ Hid (Below B w0 w') := by
  have ha := h.alloc o
  have hs : B ≤ (w.alloc o).heap.size := Nat.le_trans hB (by simp)
  exact ⟨ha.pushB ho hg, (hb.alloc hB o).grown hg hs (fun k hk => (ha.r4.lt k hk).1)⟩

theorem base_alloc {B : Nat} {w : World} (h : B ≤ w.heap.size) (o : Obj) : B ≤ (w.alloc o).heap.size := Nat.le_trans h (by simp)

theorem Arr.start (B : Nat) (w : World) : Arr B w (.slice none 0 0) (.slice none 0 0) (.slice none 0 0) (.slice none 0 0) [] [] [] [] :=
  ⟨World.ownsRow_nil _ _ _ _, World.ownsRow_nil _ _ _ _, World.ownsRow_nil _ _ _ _, World.ownsRow_nil _ _ _ _, fun k hk => by simp [Value.ownBlock] at hk, fun k hk => by simp [Value.ownBlock] at hk, fun k hk => by simp [Value.ownBlock] at hk⟩

theorem one_val {x : Value} (h : x.oneCell' = true) : ∀ u ∈ [x], u.oneCell' = true := by intro u hu; simp at hu; subst hu; exact h

/-- The four arrays of the marks M. -/
def Marks (B : Nat) (w : World) (v1 v2 v3 v4 : Value) (M : List Plain.Mk) : Prop := Arr B w v1 v2 v3 v4 (M.map (·.1)) (M.map (·.2.1)) (M.map (·.2.2.1)) (M.map (·.2.2.2))

theorem Marks.later {B : Nat} {w w' : World} {v1 v2 v3 v4 : Value} {M : List Plain.Mk} (h : Marks B w v1 v2 v3 v4 M) (hb : Below w.heap.size w w') : Marks B w' v1 v2 v3 v4 M := Arr.later h hb

theorem own_len {w : World} {base : Nat} {e : TypeId} {size : Nat} {v : Value} {n : Nat} {xs : List Value} (h : w.ownsRow base e size v n xs) : ∃ a c, v = .slice a n c := by
  rcases h.2 with ⟨rfl, h0⟩ | ⟨g, cap, cur, rfl, _⟩
  · subst h0; exact ⟨_, _, rfl⟩
  · exact ⟨_, _, rfl⟩

/-- An int array of K numbers, as the walk reads it. -/
def IntsAt (w : World) (a : Option Addr) (l : List Nat) : Prop := ∀ i (h : i < l.length), ∃ g, a = some ⟨g, 0, none⟩ ∧ w.cell? ⟨g, i, none⟩ = some (.int .i64 (l[i] : Int))
def BoolsAt (w : World) (a : Option Addr) (l : List Bool) : Prop := ∀ i (h : i < l.length), ∃ g, a = some ⟨g, 0, none⟩ ∧ w.cell? ⟨g, i, none⟩ = some (.bool l[i])

theorem ints_of {w : World} {B : Nat} {v : Value} {l : List Nat} (h : w.ownsRow B 3 1 v l.length (nums l)) : ∃ a c, v = .slice a l.length c ∧ IntsAt w a l := by
  rcases h.2 with ⟨rfl, h0⟩ | ⟨g, cap, cur, rfl, _⟩
  · refine ⟨none, 0, by rw [h0], fun i hi => by omega⟩
  · refine ⟨_, cap, rfl, fun i hi => ⟨g, rfl, ?_⟩⟩
    rw [h.cellAt i (by omega)]
    simp [nums, List.getElem?_eq_getElem hi]
theorem bools_of {w : World} {B : Nat} {v : Value} {l : List Bool} (h : w.ownsRow B 4 1 v l.length (bools l)) : ∃ a c, v = .slice a l.length c ∧ BoolsAt w a l := by
  rcases h.2 with ⟨rfl, h0⟩ | ⟨g, cap, cur, rfl, _⟩
  · refine ⟨none, 0, by rw [h0], fun i hi => by omega⟩
  · refine ⟨_, cap, rfl, fun i hi => ⟨g, rfl, ?_⟩⟩
    rw [h.cellAt i (by omega)]
    simp [bools, List.getElem?_eq_getElem hi]

theorem IntsAt.map {w : World} {a : Option Addr} {M : List Plain.Mk} {f : Plain.Mk → Nat} (h : IntsAt w a (M.map f)) : ∀ i (hi : i < M.length), ∃ g, a = some ⟨g, 0, none⟩ ∧ w.cell? ⟨g, i, none⟩ = some (.int .i64 (f M[i] : Int)) := by
  intro i hi
  obtain ⟨g, e, hc⟩ := h i (by simpa using hi)
  exact ⟨g, e, by simpa using hc⟩
theorem BoolsAt.map {w : World} {a : Option Addr} {M : List Plain.Mk} {f : Plain.Mk → Bool} (h : BoolsAt w a (M.map f)) : ∀ i (hi : i < M.length), ∃ g, a = some ⟨g, 0, none⟩ ∧ w.cell? ⟨g, i, none⟩ = some (.bool (f M[i])) := by
  intro i hi
  obtain ⟨g, e, hc⟩ := h i (by simpa using hi)
  exact ⟨g, e, by simpa using hc⟩

/-- What the four arrays read as. -/
theorem Marks.read {B : Nat} {w : World} {v1 v2 v3 v4 : Value} {M : List Plain.Mk} (h : Marks B w v1 v2 v3 v4 M) :
    ∃ s1 s2 s3 s4 d1 d2 d3 d4, v1 = .slice s1 M.length d1 ∧ v2 = .slice s2 M.length d2 ∧ v3 = .slice s3 M.length d3 ∧ v4 = .slice s4 M.length d4 ∧
      ∀ i (hi : i < M.length), ∃ g1 g2 g3 g4, s1 = some ⟨g1, 0, none⟩ ∧ s2 = some ⟨g2, 0, none⟩ ∧ s3 = some ⟨g3, 0, none⟩ ∧ s4 = some ⟨g4, 0, none⟩ ∧
        w.cell? ⟨g1, i, none⟩ = some (.int .i64 (M[i].1 : Int)) ∧ w.cell? ⟨g2, i, none⟩ = some (.int .i64 (M[i].2.1 : Int)) ∧ w.cell? ⟨g3, i, none⟩ = some (.int .i64 (M[i].2.2.1 : Int)) ∧ w.cell? ⟨g4, i, none⟩ = some (.bool M[i].2.2.2) := by
  obtain ⟨s1, d1, e1, h1⟩ := ints_of h.r1
  obtain ⟨s2, d2, e2, h2⟩ := ints_of h.r2
  obtain ⟨s3, d3, e3, h3⟩ := ints_of h.r3
  obtain ⟨s4, d4, e4, h4⟩ := bools_of h.r4
  rw [List.length_map] at e1 e2 e3 e4
  refine ⟨s1, s2, s3, s4, d1, d2, d3, d4, e1, e2, e3, e4, fun i hi => ?_⟩
  obtain ⟨g1, a1, c1⟩ := h1.map i hi
  obtain ⟨g2, a2, c2⟩ := h2.map i hi
  obtain ⟨g3, a3, c3⟩ := h3.map i hi
  obtain ⟨g4, a4, c4⟩ := h4.map i hi
  exact ⟨g1, g2, g3, g4, a1, a2, a3, a4, c1, c2, c3, c4⟩

theorem RB.seg {w : World} {a : Option Addr} {n : Nat} {l : List UInt8} (h : RB w a n l) (p e : Nat) (hp : p ≤ e) (he : e ≤ n) : (p = e → ∀ a', RB w a' (e - p) ((l.take e).drop p)) ∧ (p < e → ∃ b off, a = some ⟨b, off, none⟩ ∧ RB w (some ⟨b, off + p, none⟩) (e - p) ((l.take e).drop p)) := by
  have hl := h.1
  refine ⟨fun e1 a' => ?_, fun hlt => ?_⟩
  · subst e1
    exact ⟨by simp, .inl (by simp)⟩
  · obtain ⟨b, off, rfl, hat⟩ := h.pos (by omega)
    exact ⟨b, off, rfl, by simp; omega, .inr ⟨b, off + p, rfl, (hat.take e).drop p⟩⟩

theorem RB.take {w : World} {a : Option Addr} {n : Nat} {l : List UInt8} (h : RB w a n l) (e : Nat) (he : e ≤ n) : RB w a e (l.take e) := by
  have hl := h.1
  refine ⟨by simp; omega, ?_⟩
  rcases h.2 with e1 | ⟨b, off, e1, hat⟩
  · left; rw [e1]; simp
  · right; exact ⟨b, off, e1, hat.take e⟩

/-- What an int row of the marks reads at i. -/
theorem row_at {w : World} {B : Nat} {v : Value} {l : List Nat} (h : w.ownsRow B 3 1 v l.length (nums l)) (hp : 0 < l.length) : ∃ g cap, v = .slice (some ⟨g, 0, none⟩) l.length cap ∧ ∀ i (hi : i < l.length), w.cell? ⟨g, i, none⟩ = some (.int .i64 (l[i] : Int)) := by
  rcases h.2 with ⟨_, h0⟩ | ⟨g, cap, cur, rfl, _⟩
  · omega
  · refine ⟨g, cap, rfl, fun i hi => ?_⟩
    rw [h.cellAt i (by omega)]
    simp [nums, List.getElem?_eq_getElem hi]
theorem rowB_at {w : World} {B : Nat} {v : Value} {l : List Bool} (h : w.ownsRow B 4 1 v l.length (bools l)) (hp : 0 < l.length) : ∃ g cap, v = .slice (some ⟨g, 0, none⟩) l.length cap ∧ ∀ i (hi : i < l.length), w.cell? ⟨g, i, none⟩ = some (.bool l[i]) := by
  rcases h.2 with ⟨_, h0⟩ | ⟨g, cap, cur, rfl, _⟩
  · omega
  · refine ⟨g, cap, rfl, fun i hi => ?_⟩
    rw [h.cellAt i (by omega)]
    simp [bools, List.getElem?_eq_getElem hi]

end Go.Proofs.Qxb6600245a
