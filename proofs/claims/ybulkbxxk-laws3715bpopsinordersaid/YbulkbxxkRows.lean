/-
  No cell of these rows narrows 'for every input' (looked for: loops, veiled, ifaces, maps, wideKeys, modest, calm, conditions, laid).
  DERIVED. THE GIVEN ROWS OF THIS SEAT. 5 by the template 'for every input the law returns true; each argument reads behind the call as it read before'; 0 by the template 'total and deterministic' (their statements: YbulkbxxkTotals.lean).
  GIVEN WITH THE SEED: the statements are not yours to turn. If you find one false, say at which input.
  Laid BY PROGRAM, IN A SANDBOX (cutbox-rows.mjs): the forced cells as the released guide's own fill.sh prints them over the translation 1403487909bf0714… (all of the seat's roots in one cut). By AI agents, Wed Nov 11 2026. No macro, syntax, notation, axiom, sorry.
-/
import Derived.Test.YbulkbxxkChecked
import GoSem.Claim
import GoSem.ClaimJoined
import GoSem.ClaimMapViews
import Derived.JoinedTies
import Derived.KernelRfl
namespace Go.Proofs.Ybulkbxxk
/- THE CELL 'sum', in the pinned program and in every row, IS THE sha256 OF THE DUMP (.gsa) THAT YbulkbxxkProg.lean LOADS. Nothing in Lean hashes anything: it is a label: what it is worth is what the hold of that sum in a sandbox is worth. -/
noncomputable def Yba.pinned : Pinned := { name := "ybulkbxxk", sum := "1403487909bf0714351f8549ec581fb2ac06894f91a53a463aa856703ab4d3c3", checked := Yba.checked }
namespace Rows
def none {H : Type} : Left H := { results := [], args := [] }

/-- 'conf.LawS3715AExact': WHATEVER THE INPUT: true; the input reads as it did. -/
def lawS3715AExactSpec : ChangeSpec := { name := "lawS3715AExact", fn := fun _ => fun
  | [d1, d2, d3] => { results := [.lit (.bool true)], args := [d1, d2, d3] }
  | _ => none }
def lawS3715AExactRow : OpenClaim := { program := "ybulkbxxk", sum := "1403487909bf0714351f8549ec581fb2ac06894f91a53a463aa856703ab4d3c3", func := "example.com/rules-for-nameservers/rules-for-nameservers/conf.LawS3715AExact", spec := "lawS3715AExact", inPlace := ["internal/bytealg.IndexByteString", "internal/bytealg.IndexString", "internal/bytealg.CountString"], named := ["internal/bytealg.MaxLen"], apart := false }
def LawS3715AExactSaid : Prop := lawS3715AExactRow.holds Yba.pinned (OpenSpec.ofChange lawS3715AExactSpec)

/-- ITS FALSE NEIGHBOUR: 'it returns false'. Refute it at one input. -/
def lawS3715AExactWrong : ChangeSpec := { name := "lawS3715AExact", fn := fun _ => fun
  | [d1, d2, d3] => { results := [.lit (.bool false)], args := [d1, d2, d3] }
  | _ => none }
def LawS3715AExactWrongFalsely : Prop := lawS3715AExactRow.holds Yba.pinned (OpenSpec.ofChange lawS3715AExactWrong)

/-- 'conf.LawS3715AStopsRight': WHATEVER THE INPUT: true; the input reads as it did. -/
def lawS3715AStopsRightSpec : ChangeSpec := { name := "lawS3715AStopsRight", fn := fun _ => fun
  | [d1, d2, d3] => { results := [.lit (.bool true)], args := [d1, d2, d3] }
  | _ => none }
def lawS3715AStopsRightRow : OpenClaim := { program := "ybulkbxxk", sum := "1403487909bf0714351f8549ec581fb2ac06894f91a53a463aa856703ab4d3c3", func := "example.com/rules-for-nameservers/rules-for-nameservers/conf.LawS3715AStopsRight", spec := "lawS3715AStopsRight", inPlace := ["internal/bytealg.IndexByteString", "internal/bytealg.IndexString", "internal/bytealg.CountString"], named := ["internal/bytealg.MaxLen"], apart := false }
def LawS3715AStopsRightSaid : Prop := lawS3715AStopsRightRow.holds Yba.pinned (OpenSpec.ofChange lawS3715AStopsRightSpec)

/-- ITS FALSE NEIGHBOUR: 'it returns false'. Refute it at one input. -/
def lawS3715AStopsRightWrong : ChangeSpec := { name := "lawS3715AStopsRight", fn := fun _ => fun
  | [d1, d2, d3] => { results := [.lit (.bool false)], args := [d1, d2, d3] }
  | _ => none }
def LawS3715AStopsRightWrongFalsely : Prop := lawS3715AStopsRightRow.holds Yba.pinned (OpenSpec.ofChange lawS3715AStopsRightWrong)

/-- 'addrmatch.LawS3715BPopsInOrder': WHATEVER THE INPUT: true; the input reads as it did. -/
def lawS3715BPopsInOrderSpec : ChangeSpec := { name := "lawS3715BPopsInOrder", fn := fun _ => fun
  | [d] => { results := [.lit (.bool true)], args := [d] }
  | _ => none }
def lawS3715BPopsInOrderRow : OpenClaim := { program := "ybulkbxxk", sum := "1403487909bf0714351f8549ec581fb2ac06894f91a53a463aa856703ab4d3c3", func := "example.com/rules-for-nameservers/rules-for-nameservers/addrmatch.LawS3715BPopsInOrder", spec := "lawS3715BPopsInOrder", unfollowed := true, recurses := true, apart := false }
def LawS3715BPopsInOrderSaid : Prop := lawS3715BPopsInOrderRow.holds Yba.pinned (OpenSpec.ofChange lawS3715BPopsInOrderSpec)

/-- ITS FALSE NEIGHBOUR: 'it returns false'. Refute it at one input. -/
def lawS3715BPopsInOrderWrong : ChangeSpec := { name := "lawS3715BPopsInOrder", fn := fun _ => fun
  | [d] => { results := [.lit (.bool false)], args := [d] }
  | _ => none }
def LawS3715BPopsInOrderWrongFalsely : Prop := lawS3715BPopsInOrderRow.holds Yba.pinned (OpenSpec.ofChange lawS3715BPopsInOrderWrong)

/-- 'addrmatch.LawS3715BRemovesFirst': WHATEVER THE INPUT: true; the input reads as it did. -/
def lawS3715BRemovesFirstSpec : ChangeSpec := { name := "lawS3715BRemovesFirst", fn := fun _ => fun
  | [d] => { results := [.lit (.bool true)], args := [d] }
  | _ => none }
def lawS3715BRemovesFirstRow : OpenClaim := { program := "ybulkbxxk", sum := "1403487909bf0714351f8549ec581fb2ac06894f91a53a463aa856703ab4d3c3", func := "example.com/rules-for-nameservers/rules-for-nameservers/addrmatch.LawS3715BRemovesFirst", spec := "lawS3715BRemovesFirst", unfollowed := true, recurses := true, apart := false }
def LawS3715BRemovesFirstSaid : Prop := lawS3715BRemovesFirstRow.holds Yba.pinned (OpenSpec.ofChange lawS3715BRemovesFirstSpec)

/-- ITS FALSE NEIGHBOUR: 'it returns false'. Refute it at one input. -/
def lawS3715BRemovesFirstWrong : ChangeSpec := { name := "lawS3715BRemovesFirst", fn := fun _ => fun
  | [d] => { results := [.lit (.bool false)], args := [d] }
  | _ => none }
def LawS3715BRemovesFirstWrongFalsely : Prop := lawS3715BRemovesFirstRow.holds Yba.pinned (OpenSpec.ofChange lawS3715BRemovesFirstWrong)

/-- 'neverdecides.LawS3715CStretch': WHATEVER THE INPUT: true; the input reads as it did. -/
def lawS3715CStretchSpec : ChangeSpec := { name := "lawS3715CStretch", fn := fun _ => fun
  | [d1, d2] => { results := [.lit (.bool true)], args := [d1, d2] }
  | _ => none }
def lawS3715CStretchRow : OpenClaim := { program := "ybulkbxxk", sum := "1403487909bf0714351f8549ec581fb2ac06894f91a53a463aa856703ab4d3c3", func := "example.com/rules-for-nameservers/rules-for-nameservers/neverdecides.LawS3715CStretch", spec := "lawS3715CStretch", recurses := true, apart := false }
def LawS3715CStretchSaid : Prop := lawS3715CStretchRow.holds Yba.pinned (OpenSpec.ofChange lawS3715CStretchSpec)

/-- ITS FALSE NEIGHBOUR: 'it returns false'. Refute it at one input. -/
def lawS3715CStretchWrong : ChangeSpec := { name := "lawS3715CStretch", fn := fun _ => fun
  | [d1, d2] => { results := [.lit (.bool false)], args := [d1, d2] }
  | _ => none }
def LawS3715CStretchWrongFalsely : Prop := lawS3715CStretchRow.holds Yba.pinned (OpenSpec.ofChange lawS3715CStretchWrong)

end Rows
end Go.Proofs.Ybulkbxxk
