/-
  DERIVED. GIVEN WITH THE SEED: THE CARDS: each row of YbulkbyeyDoorRows.lean that lists a variable, with what it lists TIED to the program's text (the seventh form; the later family's looks); each row that meets fmt, with fmt's text TOLD by the authors' own Lean function (tested against real Go, not proved from fmt's source: count such statements apart). THE CARD IS WHAT COUNTS. Prove the row's statement (the work); the ties are given (YbulkbyeyDoorTie.lean); close each card by the builder's one call (the guide's Derived/Test/ToyasCard.lean, 'card_holds'). Laid BY PROGRAM, IN A SANDBOX (cutbox-door.mjs). By AI agents, Wed Nov 11 2026. No macro, syntax, notation, axiom, sorry.
-/
import Derived.Test.YbulkbyeyDoorRows
import GoSem.ClaimSeven
namespace Go.Proofs.YbulkbyeyDoor
namespace Rows

/-- THE TIED CARD OF 'hilbertree.LawS3729BOctant'. -/
def lawS3729BOctantCard : Claim7 := { stood := { row := lawS3729BOctantRow, standIns := [], harness := (true, "014f93b2c4414d334a7f504469b0e0b79481aaac49ef9200816985ddbc2720cd"), looks := false }, kinds := [], alts := [], laidByText := true, laidKinds := [.data, .widerDeep], laidTests := true, laidLooks := .later }
def LawS3729BOctantCardSaid : Prop := Claim7.holds Ybad.pinned (.plain (OpenSpec.ofChange lawS3729BOctantSpec)) lawS3729BOctantCard

/-- THE TIED CARD OF 'hilbertree.LawS3729BHemisphere'. -/
def lawS3729BHemisphereCard : Claim7 := { stood := { row := lawS3729BHemisphereRow, standIns := [], harness := (true, "014f93b2c4414d334a7f504469b0e0b79481aaac49ef9200816985ddbc2720cd"), looks := false }, kinds := [], alts := [], laidByText := true, laidKinds := [.data, .widerDeep], laidTests := true, laidLooks := .later }
def LawS3729BHemisphereCardSaid : Prop := Claim7.holds Ybad.pinned (.plain (OpenSpec.ofChange lawS3729BHemisphereSpec)) lawS3729BHemisphereCard

/-- THE TIED CARD OF 'hilbertree.LawS3729CShape'. -/
def lawS3729CShapeCard : Claim7 := { stood := { row := lawS3729CShapeRow, standIns := [], harness := (true, "014f93b2c4414d334a7f504469b0e0b79481aaac49ef9200816985ddbc2720cd"), looks := false }, kinds := [], alts := [], laidByText := true, laidKinds := [.data, .widerDeep], laidTests := true, laidLooks := .later }
def LawS3729CShapeCardSaid : Prop := Claim7.holds Ybad.pinned (.plain (OpenSpec.ofChange lawS3729CShapeSpec)) lawS3729CShapeCard

/-- THE TIED CARD OF 'hilbertree.LawS3729CMirror'. -/
def lawS3729CMirrorCard : Claim7 := { stood := { row := lawS3729CMirrorRow, standIns := [], harness := (true, "014f93b2c4414d334a7f504469b0e0b79481aaac49ef9200816985ddbc2720cd"), looks := false }, kinds := [], alts := [], laidByText := true, laidKinds := [.data, .widerDeep], laidTests := true, laidLooks := .later }
def LawS3729CMirrorCardSaid : Prop := Claim7.holds Ybad.pinned (.plain (OpenSpec.ofChange lawS3729CMirrorSpec)) lawS3729CMirrorCard

/-- THE TIED CARD OF 'hilbertree.LawS3729CScale'. -/
def lawS3729CScaleCard : Claim7 := { stood := { row := lawS3729CScaleRow, standIns := [], harness := (true, "014f93b2c4414d334a7f504469b0e0b79481aaac49ef9200816985ddbc2720cd"), looks := false }, kinds := [], alts := [], laidByText := true, laidKinds := [.data, .widerDeep], laidTests := true, laidLooks := .later }
def LawS3729CScaleCardSaid : Prop := Claim7.holds Ybad.pinned (.plain (OpenSpec.ofChange lawS3729CScaleSpec)) lawS3729CScaleCard
end Rows
end Go.Proofs.YbulkbyeyDoor
