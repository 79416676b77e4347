/-
  What LawS3729CShape asks of the two angles.
-/
import Derived.Test.YbulkbyeyDoorWb
import Derived.Below
namespace Go.Proofs.YbulkbyeyDoor
open Go.RowKit Ieee

theorem st_fl (a : Addr) (b : Nat) (m : Mode) (w : World) : (store a (.float .f64 b) m).run Ybad.prog w = stored Ybad.prog w a (.float .f64 b) m := run_store Ybad.prog w a _ m rfl

/-- What the law's questions want of the two angles. -/
structure Shape (x y nx pL pN : Nat) (cx cy cz : Ordering) : Prop where
  a0 : cx = .eq → cy = .eq → FloatKind.f64.format.order pN 0 = some .eq
  a1 : cx = .eq → cy = .eq → cz = .gt → FloatKind.f64.format.order pL 4636033603912859648 = some .eq
  a2 : cx = .eq → cy = .eq → cz = .lt → FloatKind.f64.format.order pL 13859405640767635456 = some .eq
  a3 : cx = .eq → cy = .eq → cz = .eq → FloatKind.f64.format.order pL 0 = some .eq
  b1 : cx = .eq → cy = .gt → FloatKind.f64.format.order pN 4636033603912859648 = some .eq
  b2 : cx = .eq → cy = .lt → FloatKind.f64.format.order pN 13859405640767635456 = some .eq
  b3 : cy = .eq → cx = .gt → FloatKind.f64.format.order pN 0 = some .eq
  b4 : cy = .eq → cx = .lt → FloatKind.f64.format.order pN 4640537203540230144 = some .eq
  b5 : cx = .gt → FloatKind.f64.format.order y x = some .eq → FloatKind.f64.format.order pN 4631530004285489152 = some .eq
  b6 : cx = .gt → FloatKind.f64.format.order y nx = some .eq → FloatKind.f64.format.order pN 13854902041140264960 = some .eq
  b7 : cx = .lt → FloatKind.f64.format.order y x = some .eq → FloatKind.f64.format.order pN 13862325943651008512 = some .eq
  c1 : cz = .gt → FloatKind.f64.format.order pL 0 ≠ some .lt
  c2 : cz = .lt → FloatKind.f64.format.order pL 0 ≠ some .gt
  d1 : cy = .gt → FloatKind.f64.format.order pN 0 ≠ some .lt
  d2 : cy = .lt → FloatKind.f64.format.order pN 0 = some .lt ∨ FloatKind.f64.format.order pN 0 = some .eq ∨ (FloatKind.f64.format.order pN 0 = some .gt ∧ FloatKind.f64.format.order pN 4640537203540230144 = some .eq)
  e1 : cx ≠ cy → FloatKind.f64.format.order y x ≠ some .eq
  e2 : cx = .gt → cy ≠ .lt → FloatKind.f64.format.order y nx ≠ some .eq

end Go.Proofs.YbulkbyeyDoor
