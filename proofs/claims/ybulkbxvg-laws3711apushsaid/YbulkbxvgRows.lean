/-
  No cell of these rows narrows 'for every input' (looked for: loops, veiled, ifaces, maps, wideKeys, modest, calm, conditions, laid).
  DERIVED. THE GIVEN ROWS OF THIS SEAT. 1 by the template 'for every input the law returns true; each argument reads behind the call as it read before'; 0 by the template 'total and deterministic' (their statements: YbulkbxvgTotals.lean).
  GIVEN WITH THE SEED: the statements are not yours to turn. If you find one false, say at which input.
  Laid BY PROGRAM, IN A SANDBOX (cutbox-rows.mjs): the forced cells as the released guide's own fill.sh prints them over the translation 64dc045964f6bff4… (all of the seat's roots in one cut). By AI agents, Wed Nov 11 2026. No macro, syntax, notation, axiom, sorry.
-/
import Derived.Test.YbulkbxvgChecked
import GoSem.Claim
import GoSem.ClaimJoined
import GoSem.ClaimMapViews
import Derived.JoinedTies
import Derived.KernelRfl
namespace Go.Proofs.Ybulkbxvg
/- THE CELL 'sum', in the pinned program and in every row, IS THE sha256 OF THE DUMP (.gsa) THAT YbulkbxvgProg.lean LOADS. Nothing in Lean hashes anything: it is a label: what it is worth is what the hold of that sum in a sandbox is worth. -/
noncomputable def Yba.pinned : Pinned := { name := "ybulkbxvg", sum := "64dc045964f6bff49ef8492d7b9610273f16e2ed09768bf1490284fcbb69b0b8", checked := Yba.checked }
namespace Rows
def none {H : Type} : Left H := { results := [], args := [] }

/-- 'network.LawS3711APush': WHATEVER THE INPUT: true; the input reads as it did. -/
def lawS3711APushSpec : ChangeSpec := { name := "lawS3711APush", fn := fun _ => fun
  | [d1, d2, d3] => { results := [.lit (.bool true)], args := [d1, d2, d3] }
  | _ => none }
def lawS3711APushRow : OpenClaim := { program := "ybulkbxvg", sum := "64dc045964f6bff49ef8492d7b9610273f16e2ed09768bf1490284fcbb69b0b8", func := "example.com/causeway/causeway/network.LawS3711APush", spec := "lawS3711APush", plainKeys := false, apart := false }
def LawS3711APushSaid : Prop := lawS3711APushRow.holds Yba.pinned (OpenSpec.ofChange lawS3711APushSpec)

/-- ITS FALSE NEIGHBOUR: 'it returns false'. Refute it at one input. -/
def lawS3711APushWrong : ChangeSpec := { name := "lawS3711APush", fn := fun _ => fun
  | [d1, d2, d3] => { results := [.lit (.bool false)], args := [d1, d2, d3] }
  | _ => none }
def LawS3711APushWrongFalsely : Prop := lawS3711APushRow.holds Yba.pinned (OpenSpec.ofChange lawS3711APushWrong)

end Rows
end Go.Proofs.Ybulkbxvg
