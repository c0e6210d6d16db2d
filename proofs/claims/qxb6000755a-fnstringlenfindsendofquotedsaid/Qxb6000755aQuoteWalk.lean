/-
  THE WALK of FnStringLenFindsEndOfQuoted, all cases (seat b6000755a).
-/
import Derived.Test.Qxb6000755aQuoteRaw
import Derived.Test.Qxb6000755aQuoteInt
namespace Go.Proofs.Qxb6000755a.Quote
open Go.RowKit

theorem walk (s t : ByteArray) (r : Bool) (w : World) (h : s.size ≤ maxLen) (h2 : t.size ≤ maxLen) :
    Calls Try.prog 5 #[.string s, .string t, .bool r] w fun e w' => e = .returned (.bool true) ∧ Below w.heap.size w w' := by
  by_cases hs : s.size ≤ 524288
  · by_cases ht : t.size ≤ 524288
    · cases r with
      | true => exact raw s t w hs ht _ rfl
      | false => exact interp s t w hs ht _ rfl
    · exact (big2 s t r w h h2 hs (by omega)).mono fun e w' ⟨he, hw⟩ => ⟨he, hw ▸ Below.refl _ _⟩
  · exact (big1 s t r w h h2 (by omega)).mono fun e w' ⟨he, hw⟩ => ⟨he, hw ▸ Below.refl _ _⟩

end Go.Proofs.Qxb6000755a.Quote
