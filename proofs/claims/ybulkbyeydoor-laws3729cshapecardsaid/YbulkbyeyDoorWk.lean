/-
  The walk of LawS3729CShape (5) where a coordinate is not finite.
-/
import Derived.Test.YbulkbyeyDoorWf
namespace Go.Proofs.YbulkbyeyDoor
open Go.RowKit Ieee
set_option linter.unusedVariables false
attribute [local go_sem] st_fl

set_option maxHeartbeats 16000000 in
set_option maxRecDepth 100000 in
theorem law_out {x y z : Nat} {bx bz bv : Bool} (w : World) (hb : (bx && bv && bz) = false)
    (KX : Aside (∀ w, Calls Ybad.prog 13 #[.float .f64 x] w fun e w' => e = .returned (.bool bx) ∧ w' = w))
    (KY : Aside (∀ w, Calls Ybad.prog 13 #[.float .f64 y] w fun e w' => e = .returned (.bool bv) ∧ w' = w))
    (KZ : Aside (∀ w, Calls Ybad.prog 13 #[.float .f64 z] w fun e w' => e = .returned (.bool bz) ∧ w' = w)) :
    Calls Ybad.prog 5 #[.float .f64 x, .float .f64 y, .float .f64 z] w fun e w' => e = .returned (.bool true) ∧ Below w.heap.size w w' := by
  go_enter Ybad.func5, Ybad.ntmps5
  go_wp2_with fail
  refine (KX.out _).mono ?_
  rintro e wa ⟨rfl, rfl⟩
  cases bx with
  | false =>
    clear hb
    go_wp2_with fail
    go_ret
    exact ⟨rfl, Below.refl _ _⟩
  | true =>
    go_wp2_with fail
    refine (KY.out _).mono ?_
    rintro e wb ⟨rfl, rfl⟩
    cases bv with
    | false =>
      clear hb
      go_wp2_with fail
      go_ret
      exact ⟨rfl, Below.refl _ _⟩
    | true =>
      go_wp2_with fail
      refine (KZ.out _).mono ?_
      rintro e w0 ⟨rfl, rfl⟩
      obtain rfl : bz = false := by simpa using hb
      clear hb
      go_wp2_with fail
      go_ret
      exact ⟨rfl, Below.refl _ _⟩
end Go.Proofs.YbulkbyeyDoor
