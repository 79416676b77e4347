/-
  No cell of these rows narrows 'for every input' (looked for: loops, veiled, ifaces, maps, wideKeys, modest, calm, conditions, laid).
  DERIVED. THE GIVEN ROWS OF THIS SEAT. 2 by the template 'for every input the law returns true; each argument reads behind the call as it read before'; 0 by the template 'total and deterministic' (their statements: YbulkbxzaTotals.lean).
  GIVEN WITH THE SEED: the statements are not yours to turn. If you find one false, say at which input.
  Laid BY PROGRAM, IN A SANDBOX (cutbox-rows.mjs): the forced cells as the released guide's own fill.sh prints them over the translation e1e8c9e8af92c114… (all of the seat's roots in one cut). By AI agents, Wed Nov 11 2026. No macro, syntax, notation, axiom, sorry.
-/
import Derived.Test.YbulkbxzaChecked
import GoSem.Claim
import GoSem.ClaimJoined
import GoSem.ClaimMapViews
import Derived.JoinedTies
import Derived.KernelRfl
namespace Go.Proofs.Ybulkbxza
/- THE CELL 'sum', in the pinned program and in every row, IS THE sha256 OF THE DUMP (.gsa) THAT YbulkbxzaProg.lean LOADS. Nothing in Lean hashes anything: it is a label: what it is worth is what the hold of that sum in a sandbox is worth. -/
noncomputable def Yba.pinned : Pinned := { name := "ybulkbxza", sum := "e1e8c9e8af92c114e445c222df4cf32dda1082d012b9b0e36adb7ef468d13208", checked := Yba.checked }
namespace Rows
def none {H : Type} : Left H := { results := [], args := [] }

/-- 'sim.LawS3718AModel': WHATEVER THE INPUT: true; the input reads as it did. -/
def lawS3718AModelSpec : ChangeSpec := { name := "lawS3718AModel", fn := fun _ => fun
  | [d1, d2, d3] => { results := [.lit (.bool true)], args := [d1, d2, d3] }
  | _ => none }
def lawS3718AModelRow : OpenClaim := { program := "ybulkbxza", sum := "e1e8c9e8af92c114e445c222df4cf32dda1082d012b9b0e36adb7ef468d13208", func := "example.com/peerloom/peerloom/internal/sim.LawS3718AModel", spec := "lawS3718AModel", inPlace := ["internal/bytealg.Compare"], unfollowed := true, recurses := true, plainKeys := false, apart := false }
def LawS3718AModelSaid : Prop := lawS3718AModelRow.holds Yba.pinned (OpenSpec.ofChange lawS3718AModelSpec)

/-- ITS FALSE NEIGHBOUR: 'it returns false'. Refute it at one input. -/
def lawS3718AModelWrong : ChangeSpec := { name := "lawS3718AModel", fn := fun _ => fun
  | [d1, d2, d3] => { results := [.lit (.bool false)], args := [d1, d2, d3] }
  | _ => none }
def LawS3718AModelWrongFalsely : Prop := lawS3718AModelRow.holds Yba.pinned (OpenSpec.ofChange lawS3718AModelWrong)

/-- 'sim.LawS3718AOwnsSelf': WHATEVER THE INPUT: true; the input reads as it did. -/
def lawS3718AOwnsSelfSpec : ChangeSpec := { name := "lawS3718AOwnsSelf", fn := fun _ => fun
  | [d1, d2, d3] => { results := [.lit (.bool true)], args := [d1, d2, d3] }
  | _ => none }
def lawS3718AOwnsSelfRow : OpenClaim := { program := "ybulkbxza", sum := "e1e8c9e8af92c114e445c222df4cf32dda1082d012b9b0e36adb7ef468d13208", func := "example.com/peerloom/peerloom/internal/sim.LawS3718AOwnsSelf", spec := "lawS3718AOwnsSelf", inPlace := ["internal/bytealg.Compare"], unfollowed := true, recurses := true, plainKeys := false, apart := false }
def LawS3718AOwnsSelfSaid : Prop := lawS3718AOwnsSelfRow.holds Yba.pinned (OpenSpec.ofChange lawS3718AOwnsSelfSpec)

/-- ITS FALSE NEIGHBOUR: 'it returns false'. Refute it at one input. -/
def lawS3718AOwnsSelfWrong : ChangeSpec := { name := "lawS3718AOwnsSelf", fn := fun _ => fun
  | [d1, d2, d3] => { results := [.lit (.bool false)], args := [d1, d2, d3] }
  | _ => none }
def LawS3718AOwnsSelfWrongFalsely : Prop := lawS3718AOwnsSelfRow.holds Yba.pinned (OpenSpec.ofChange lawS3718AOwnsSelfWrong)

end Rows
end Go.Proofs.Ybulkbxza
