/-
  DERIVED. GIVEN WITH THE SEED: THE PROGRAM's TIES (one call each: nine closed facts by the kernel) AND EACH ROW's TIE, after the 31st guide's Derived/Test/Toyas{Tie, Card}.lean. No idea stands in it: it is a product of the set-up. Laid BY PROGRAM, IN A SANDBOX (cutbox-door.mjs). By AI agents, Wed Nov 11 2026. No macro, syntax, notation, axiom, sorry.
-/
import Derived.Test.YbulkbyeyDoorRows
import Derived.LaidByTextLater
import Derived.SevenTiedAt
import Derived.LaidSub
import Derived.LaidOnce
namespace Go.Proofs.YbulkbyeyDoor
open Go
set_option maxRecDepth 100000
theorem seatTie1 : Ybad.prog.laidByTextLater [("example.com/hilbertree/hilbertree.atanEighths", Rows.laid_example_com_hilbertree_hilbertree_atanEighths), ("example.com/hilbertree/hilbertree.atanPoly", Rows.laid_example_com_hilbertree_hilbertree_atanPoly)] [.data, .widerDeep] true :=
  Program.laidByTextLater_by_one 19 8 10 (by kernel_rfl) (by kernel_rfl) (by kernel_rfl) (by kernel_rfl) (by kernel_rfl) (by kernel_rfl) (fun _ _ => by kernel_rfl)
theorem noOwnUnsafe : Ybad.pinned.checked.prog.headLifts.contains "ownunsafe" = false := by kernel_rfl
theorem tie : Ybad.prog.laidByTextLater [("example.com/hilbertree/hilbertree.atanEighths", Rows.laid_example_com_hilbertree_hilbertree_atanEighths), ("example.com/hilbertree/hilbertree.atanPoly", Rows.laid_example_com_hilbertree_hilbertree_atanPoly)] [.data, .widerDeep] true :=
  Program.laidByTextLater.sub seatTie1 ["example.com/hilbertree/hilbertree.atanEighths", "example.com/hilbertree/hilbertree.atanPoly"] (by kernel_rfl) (by kernel_rfl)
theorem lawS3729BOctant_row_tie : Rows.lawS3729BOctantRow.laidByTextAt .later Ybad.pinned [.data, .widerDeep] true :=
  OpenClaim.laidByTextAt_later rfl rfl tie noOwnUnsafe
theorem lawS3729BHemisphere_row_tie : Rows.lawS3729BHemisphereRow.laidByTextAt .later Ybad.pinned [.data, .widerDeep] true :=
  OpenClaim.laidByTextAt_later rfl rfl tie noOwnUnsafe
theorem lawS3729CShape_row_tie : Rows.lawS3729CShapeRow.laidByTextAt .later Ybad.pinned [.data, .widerDeep] true :=
  OpenClaim.laidByTextAt_later rfl rfl tie noOwnUnsafe
theorem lawS3729CMirror_row_tie : Rows.lawS3729CMirrorRow.laidByTextAt .later Ybad.pinned [.data, .widerDeep] true :=
  OpenClaim.laidByTextAt_later rfl rfl tie noOwnUnsafe
theorem lawS3729CScale_row_tie : Rows.lawS3729CScaleRow.laidByTextAt .later Ybad.pinned [.data, .widerDeep] true :=
  OpenClaim.laidByTextAt_later rfl rfl tie noOwnUnsafe
end Go.Proofs.YbulkbyeyDoor
