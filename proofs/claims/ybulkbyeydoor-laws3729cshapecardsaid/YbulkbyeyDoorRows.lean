/-
  NARROWER THAN 'FOR EVERY INPUT', by the rows' own cells (each row's printed sentence says how): LawS3729BOctant: laid · LawS3729BHemisphere: laid · LawS3729CShape: laid · LawS3729CMirror: laid · LawS3729CScale: laid.
  DERIVED. THE GIVEN ROWS OF THIS SEAT. 5 by the template 'for every input the law returns true; each argument reads behind the call as it read before'; 0 by the template 'total and deterministic' (their statements: YbulkbyeyDoorTotals.lean).
  GIVEN WITH THE SEED: the statements are not yours to turn. If you find one false, say at which input.
  Laid BY PROGRAM, IN A SANDBOX (cutbox-rows.mjs): the forced cells as the released guide's own fill.sh prints them over the translation 6b1e3a64eddf84b8… (all of the seat's roots in one cut). By AI agents, Wed Nov 11 2026. No macro, syntax, notation, axiom, sorry.
-/
import Derived.Test.YbulkbyeyDoorChecked
import GoSem.Claim
import GoSem.ClaimJoined
import GoSem.ClaimMapViews
import Derived.JoinedTies
import Derived.KernelRfl
namespace Go.Proofs.YbulkbyeyDoor
/- THE CELL 'sum', in the pinned program and in every row, IS THE sha256 OF THE DUMP (.gsa) THAT YbulkbyeyDoorProg.lean LOADS. Nothing in Lean hashes anything: it is a label: what it is worth is what the hold of that sum in a sandbox is worth. -/
noncomputable def Ybad.pinned : Pinned := { name := "ybulkbyeydoor", sum := "6b1e3a64eddf84b81bebc83d29e164ec53cb0c7651694f3bb84116b33755bd07", checked := Ybad.checked }
namespace Rows
def none {H : Type} : Left H := { results := [], args := [] }

/- WHAT THE LISTED PACKAGE-LEVEL VARIABLES READ AS WHEN THE CALL BEGINS. Each datum BY PROGRAM (the guide's laid-datum.mjs) off the statement by which the dump's own 'gosem.cut.vars' lays the variable. In a bare row this is a premise. The card (YbulkbyeyDoorCards.lean) ties it to the program's text. -/
def laid_example_com_hilbertree_hilbertree_atanEighths {H : Type} : DataW H := .agg [.lit (.float .f64 0), .lit (.float .f64 4619708073670868611), .lit (.float .f64 4624091320661237806), .lit (.float .f64 4626479230031574343), .lit (.float .f64 4628170614843514308), .lit (.float .f64 4629701174556054853), .lit (.float .f64 4630385794100093500), .lit (.float .f64 4630993220972911864), .lit (.float .f64 4631530004285489152)]
def laid_example_com_hilbertree_hilbertree_atanPoly {H : Type} : DataW H := .agg [.lit (.float .f64 4590207312512236308), .lit (.float .f64 13814587147885025094), .lit (.float .f64 4592670820000712476), .lit (.float .f64 13817687028148020370), .lit (.float .f64 4596373779694328218), .lit (.float .f64 13823048456275842389)]

/-- 'hilbertree.LawS3729BOctant': WHATEVER THE INPUT: true; the input reads as it did. -/
def lawS3729BOctantSpec : ChangeSpec := { name := "lawS3729BOctant", vars := ["example.com/hilbertree/hilbertree.atanPoly", "example.com/hilbertree/hilbertree.atanEighths"], fn := fun _ => fun
  | [d1, d2, d3, d4, d5, g1, g2] => { results := [.lit (.bool true)], args := [d1, d2, d3, d4, d5], vars := [g1, g2] }
  | _ => none }
def lawS3729BOctantRow : OpenClaim := { program := "ybulkbyeydoor", sum := "6b1e3a64eddf84b81bebc83d29e164ec53cb0c7651694f3bb84116b33755bd07", func := "example.com/hilbertree/hilbertree.LawS3729BOctant", spec := "lawS3729BOctant", inPlace := ["math.sqrt", "math.Float64bits", "math.Float64frombits"], named := ["example.com/hilbertree/hilbertree.atanPoly", "example.com/hilbertree/hilbertree.atanEighths"], apart := false, laid := [("example.com/hilbertree/hilbertree.atanEighths", laid_example_com_hilbertree_hilbertree_atanEighths), ("example.com/hilbertree/hilbertree.atanPoly", laid_example_com_hilbertree_hilbertree_atanPoly)] }
def LawS3729BOctantSaid : Prop := lawS3729BOctantRow.holds Ybad.pinned (OpenSpec.ofChange lawS3729BOctantSpec)

/-- ITS FALSE NEIGHBOUR: 'it returns false'. Refute it at one input. -/
def lawS3729BOctantWrong : ChangeSpec := { name := "lawS3729BOctant", vars := ["example.com/hilbertree/hilbertree.atanPoly", "example.com/hilbertree/hilbertree.atanEighths"], fn := fun _ => fun
  | [d1, d2, d3, d4, d5, g1, g2] => { results := [.lit (.bool false)], args := [d1, d2, d3, d4, d5], vars := [g1, g2] }
  | _ => none }
def LawS3729BOctantWrongFalsely : Prop := lawS3729BOctantRow.holds Ybad.pinned (OpenSpec.ofChange lawS3729BOctantWrong)

/-- 'hilbertree.LawS3729BHemisphere': WHATEVER THE INPUT: true; the input reads as it did. -/
def lawS3729BHemisphereSpec : ChangeSpec := { name := "lawS3729BHemisphere", vars := ["example.com/hilbertree/hilbertree.atanPoly", "example.com/hilbertree/hilbertree.atanEighths"], fn := fun _ => fun
  | [d1, d2, d3, d4, g1, g2] => { results := [.lit (.bool true)], args := [d1, d2, d3, d4], vars := [g1, g2] }
  | _ => none }
def lawS3729BHemisphereRow : OpenClaim := { program := "ybulkbyeydoor", sum := "6b1e3a64eddf84b81bebc83d29e164ec53cb0c7651694f3bb84116b33755bd07", func := "example.com/hilbertree/hilbertree.LawS3729BHemisphere", spec := "lawS3729BHemisphere", inPlace := ["math.Float64bits", "math.Float64frombits", "math.sqrt"], named := ["example.com/hilbertree/hilbertree.atanPoly", "example.com/hilbertree/hilbertree.atanEighths"], apart := false, laid := [("example.com/hilbertree/hilbertree.atanEighths", laid_example_com_hilbertree_hilbertree_atanEighths), ("example.com/hilbertree/hilbertree.atanPoly", laid_example_com_hilbertree_hilbertree_atanPoly)] }
def LawS3729BHemisphereSaid : Prop := lawS3729BHemisphereRow.holds Ybad.pinned (OpenSpec.ofChange lawS3729BHemisphereSpec)

/-- ITS FALSE NEIGHBOUR: 'it returns false'. Refute it at one input. -/
def lawS3729BHemisphereWrong : ChangeSpec := { name := "lawS3729BHemisphere", vars := ["example.com/hilbertree/hilbertree.atanPoly", "example.com/hilbertree/hilbertree.atanEighths"], fn := fun _ => fun
  | [d1, d2, d3, d4, g1, g2] => { results := [.lit (.bool false)], args := [d1, d2, d3, d4], vars := [g1, g2] }
  | _ => none }
def LawS3729BHemisphereWrongFalsely : Prop := lawS3729BHemisphereRow.holds Ybad.pinned (OpenSpec.ofChange lawS3729BHemisphereWrong)

/-- 'hilbertree.LawS3729CShape': WHATEVER THE INPUT: true; the input reads as it did. -/
def lawS3729CShapeSpec : ChangeSpec := { name := "lawS3729CShape", vars := ["example.com/hilbertree/hilbertree.atanPoly", "example.com/hilbertree/hilbertree.atanEighths"], fn := fun _ => fun
  | [d1, d2, d3, g1, g2] => { results := [.lit (.bool true)], args := [d1, d2, d3], vars := [g1, g2] }
  | _ => none }
def lawS3729CShapeRow : OpenClaim := { program := "ybulkbyeydoor", sum := "6b1e3a64eddf84b81bebc83d29e164ec53cb0c7651694f3bb84116b33755bd07", func := "example.com/hilbertree/hilbertree.LawS3729CShape", spec := "lawS3729CShape", inPlace := ["math.Float64bits", "math.Float64frombits", "math.sqrt"], named := ["example.com/hilbertree/hilbertree.atanPoly", "example.com/hilbertree/hilbertree.atanEighths"], apart := false, laid := [("example.com/hilbertree/hilbertree.atanEighths", laid_example_com_hilbertree_hilbertree_atanEighths), ("example.com/hilbertree/hilbertree.atanPoly", laid_example_com_hilbertree_hilbertree_atanPoly)] }
def LawS3729CShapeSaid : Prop := lawS3729CShapeRow.holds Ybad.pinned (OpenSpec.ofChange lawS3729CShapeSpec)

/-- ITS FALSE NEIGHBOUR: 'it returns false'. Refute it at one input. -/
def lawS3729CShapeWrong : ChangeSpec := { name := "lawS3729CShape", vars := ["example.com/hilbertree/hilbertree.atanPoly", "example.com/hilbertree/hilbertree.atanEighths"], fn := fun _ => fun
  | [d1, d2, d3, g1, g2] => { results := [.lit (.bool false)], args := [d1, d2, d3], vars := [g1, g2] }
  | _ => none }
def LawS3729CShapeWrongFalsely : Prop := lawS3729CShapeRow.holds Ybad.pinned (OpenSpec.ofChange lawS3729CShapeWrong)

/-- 'hilbertree.LawS3729CMirror': WHATEVER THE INPUT: true; the input reads as it did. -/
def lawS3729CMirrorSpec : ChangeSpec := { name := "lawS3729CMirror", vars := ["example.com/hilbertree/hilbertree.atanPoly", "example.com/hilbertree/hilbertree.atanEighths"], fn := fun _ => fun
  | [d1, d2, d3, g1, g2] => { results := [.lit (.bool true)], args := [d1, d2, d3], vars := [g1, g2] }
  | _ => none }
def lawS3729CMirrorRow : OpenClaim := { program := "ybulkbyeydoor", sum := "6b1e3a64eddf84b81bebc83d29e164ec53cb0c7651694f3bb84116b33755bd07", func := "example.com/hilbertree/hilbertree.LawS3729CMirror", spec := "lawS3729CMirror", inPlace := ["math.Float64bits", "math.Float64frombits", "math.sqrt"], named := ["example.com/hilbertree/hilbertree.atanPoly", "example.com/hilbertree/hilbertree.atanEighths"], apart := false, laid := [("example.com/hilbertree/hilbertree.atanEighths", laid_example_com_hilbertree_hilbertree_atanEighths), ("example.com/hilbertree/hilbertree.atanPoly", laid_example_com_hilbertree_hilbertree_atanPoly)] }
def LawS3729CMirrorSaid : Prop := lawS3729CMirrorRow.holds Ybad.pinned (OpenSpec.ofChange lawS3729CMirrorSpec)

/-- ITS FALSE NEIGHBOUR: 'it returns false'. Refute it at one input. -/
def lawS3729CMirrorWrong : ChangeSpec := { name := "lawS3729CMirror", vars := ["example.com/hilbertree/hilbertree.atanPoly", "example.com/hilbertree/hilbertree.atanEighths"], fn := fun _ => fun
  | [d1, d2, d3, g1, g2] => { results := [.lit (.bool false)], args := [d1, d2, d3], vars := [g1, g2] }
  | _ => none }
def LawS3729CMirrorWrongFalsely : Prop := lawS3729CMirrorRow.holds Ybad.pinned (OpenSpec.ofChange lawS3729CMirrorWrong)

/-- 'hilbertree.LawS3729CScale': WHATEVER THE INPUT: true; the input reads as it did. -/
def lawS3729CScaleSpec : ChangeSpec := { name := "lawS3729CScale", vars := ["example.com/hilbertree/hilbertree.atanPoly", "example.com/hilbertree/hilbertree.atanEighths"], fn := fun _ => fun
  | [d1, d2, d3, d4, g1, g2] => { results := [.lit (.bool true)], args := [d1, d2, d3, d4], vars := [g1, g2] }
  | _ => none }
def lawS3729CScaleRow : OpenClaim := { program := "ybulkbyeydoor", sum := "6b1e3a64eddf84b81bebc83d29e164ec53cb0c7651694f3bb84116b33755bd07", func := "example.com/hilbertree/hilbertree.LawS3729CScale", spec := "lawS3729CScale", inPlace := ["math.Float64bits", "math.Float64frombits", "math.sqrt"], named := ["example.com/hilbertree/hilbertree.atanPoly", "example.com/hilbertree/hilbertree.atanEighths"], apart := false, laid := [("example.com/hilbertree/hilbertree.atanEighths", laid_example_com_hilbertree_hilbertree_atanEighths), ("example.com/hilbertree/hilbertree.atanPoly", laid_example_com_hilbertree_hilbertree_atanPoly)] }
def LawS3729CScaleSaid : Prop := lawS3729CScaleRow.holds Ybad.pinned (OpenSpec.ofChange lawS3729CScaleSpec)

/-- ITS FALSE NEIGHBOUR: 'it returns false'. Refute it at one input. -/
def lawS3729CScaleWrong : ChangeSpec := { name := "lawS3729CScale", vars := ["example.com/hilbertree/hilbertree.atanPoly", "example.com/hilbertree/hilbertree.atanEighths"], fn := fun _ => fun
  | [d1, d2, d3, d4, g1, g2] => { results := [.lit (.bool false)], args := [d1, d2, d3, d4], vars := [g1, g2] }
  | _ => none }
def LawS3729CScaleWrongFalsely : Prop := lawS3729CScaleRow.holds Ybad.pinned (OpenSpec.ofChange lawS3729CScaleWrong)

end Rows
end Go.Proofs.YbulkbyeyDoor
