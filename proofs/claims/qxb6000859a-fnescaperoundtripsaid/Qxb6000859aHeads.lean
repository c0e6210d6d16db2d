/-
  THREE CLOSED FACTS ON THE CUT's HEAD ('mayEnter', 'liftsFinal', 'make'), by way of the head's own list of signs: reckoned from the string they take 10 GB in the kernel.
-/
import Derived.Test.Qxb6000859aRows
import Derived.JoinedOf
import Derived.KernelRfl
namespace Go.Proofs.Qxb6000859a.Heads
open Go

set_option maxRecDepth 100000 in
theorem signs : ∃ l : List Char, Try.prog.initOrder = String.ofList l ∧ (behindMainWord (wordsSigns l)).head? = some "cut".toList := ⟨_, rfl, by kernel_rfl⟩

theorem words : ∃ r, behindMainWord (wordsSigns Try.prog.initOrder.toList) = "cut".toList :: r := by
  obtain ⟨l, h1, h2⟩ := signs
  rw [h1, String.toList_ofList]
  cases h : behindMainWord (wordsSigns l) with
  | nil => rw [h] at h2; cases h2
  | cons c r => rw [h] at h2; exact ⟨r, by rw [Option.some.inj h2]⟩

theorem strips (r : List (List Char)) : stripLifts liftWords ("cut".toList :: r) = ([], "cut".toList :: r) := by kernel_rfl

theorem lifts_of (P : Program) (r : List (List Char)) (h : behindMainWord (wordsSigns P.initOrder.toList) = "cut".toList :: r) : P.headLifts = [] := by
  unfold Program.headLifts
  rw [h, strips]
  rfl

theorem enters_of (P : Program) (r : List (List Char)) (h : behindMainWord (wordsSigns P.initOrder.toList) = "cut".toList :: r) (later : P.laysLater = false) (reflect : P.bearsReflect = false) (door : P.doorFits [] = true) : P.mayEnter = true := by
  unfold Program.mayEnter
  rw [h]
  simp only [strips, later, reflect, door]
  kernel_rfl

theorem finals_of (P : Program) (r : List (List Char)) (h : behindMainWord (wordsSigns P.initOrder.toList) = "cut".toList :: r) : P.liftsFinal = false := by
  unfold Program.liftsFinal
  rw [lifts_of P r h, h]
  kernel_rfl

theorem makes_of (P : Program) (r : List (List Char)) (h : behindMainWord (wordsSigns P.initOrder.toList) = "cut".toList :: r) : P.make = some .cut := by
  unfold Program.make
  rw [h]
  kernel_rfl

theorem later : Try.prog.laysLater = false := by kernel_rfl
theorem reflect : Try.prog.bearsReflect = false := by kernel_rfl
theorem door : Try.prog.doorFits [] = true := by kernel_rfl

theorem enters : Try.prog.mayEnter = true := by
  obtain ⟨r, h⟩ := words
  exact enters_of _ r h later reflect door

theorem finals : Try.prog.liftsFinal = false := by
  obtain ⟨r, h⟩ := words
  exact finals_of _ r h

theorem makes : Try.prog.make = some .cut := by
  obtain ⟨r, h⟩ := words
  exact makes_of _ r h

end Go.Proofs.Qxb6000859a.Heads
