/-
  No cell of these rows narrows 'for every input' (looked for: loops, veiled, ifaces, maps, wideKeys, modest, calm, conditions, laid).
  DERIVED. THE GIVEN ROWS OF THIS SEAT. 3 by the template 'for every input the law returns true; each argument reads behind the call as it read before'; 0 by the template 'total and deterministic' (their statements: YbulkbxvgFmtTotals.lean).
  GIVEN WITH THE SEED: the statements are not yours to turn. If you find one false, say at which input.
  Laid BY PROGRAM, IN A SANDBOX (cutbox-rows.mjs): the forced cells as the released guide's own fill.sh prints them over the translation 36c7959fa2b71a9f… (all of the seat's roots in one cut). By AI agents, Wed Nov 11 2026. No macro, syntax, notation, axiom, sorry.
-/
import Derived.Test.YbulkbxvgFmtChecked
import GoSem.Claim
import GoSem.ClaimJoined
import GoSem.ClaimMapViews
import Derived.JoinedTies
import Derived.KernelRfl
namespace Go.Proofs.YbulkbxvgFmt
/- THE CELL 'sum', in the pinned program and in every row, IS THE sha256 OF THE DUMP (.gsa) THAT YbulkbxvgFmtProg.lean LOADS. Nothing in Lean hashes anything: it is a label: what it is worth is what the hold of that sum in a sandbox is worth. -/
noncomputable def Ybaf.pinned : Pinned := { name := "ybulkbxvgfmt", sum := "36c7959fa2b71a9ff1b4be86421f1d6c595e187abd80b778ae2b13491817635d", checked := Ybaf.checked }
namespace Rows
def none {H : Type} : Left H := { results := [], args := [] }

/-- 'snapshot.LawS3711BRefusesEmptyNetwork': WHATEVER THE INPUT: true; the input reads as it did. -/
def lawS3711BRefusesEmptyNetworkSpec : ChangeSpec := { name := "lawS3711BRefusesEmptyNetwork", fn := fun _ => fun
  | [d1, d2, d3, d4] => { results := [.lit (.bool true)], args := [d1, d2, d3, d4] }
  | _ => none }
def lawS3711BRefusesEmptyNetworkRow : OpenClaim := { program := "ybulkbxvgfmt", sum := "36c7959fa2b71a9ff1b4be86421f1d6c595e187abd80b778ae2b13491817635d", func := "example.com/causeway/causeway/snapshot.LawS3711BRefusesEmptyNetwork", spec := "lawS3711BRefusesEmptyNetwork", stops := ["fmt.errorf"], inPlace := ["fmt.errorf"], plainKeys := false, apart := false }
/-- NO THEOREM (fmt's text is open here; it may be false): for the released tool's asking of the row's closed facts alone. THE STATEMENT IS 'LawS3711BRefusesEmptyNetworkToldSaid' (YbulkbxvgFmtCards.lean). -/
def LawS3711BRefusesEmptyNetworkFormAsk : Prop := lawS3711BRefusesEmptyNetworkRow.holds Ybaf.pinned (OpenSpec.ofChange lawS3711BRefusesEmptyNetworkSpec)

/-- ITS FALSE NEIGHBOUR: 'it returns false'. Refute it at one input. -/
def lawS3711BRefusesEmptyNetworkWrong : ChangeSpec := { name := "lawS3711BRefusesEmptyNetwork", fn := fun _ => fun
  | [d1, d2, d3, d4] => { results := [.lit (.bool false)], args := [d1, d2, d3, d4] }
  | _ => none }
def LawS3711BRefusesEmptyNetworkWrongFormAsk : Prop := lawS3711BRefusesEmptyNetworkRow.holds Ybaf.pinned (OpenSpec.ofChange lawS3711BRefusesEmptyNetworkWrong)

/-- 'network.LawS3711CNew': WHATEVER THE INPUT: true; the input reads as it did. -/
def lawS3711CNewSpec : ChangeSpec := { name := "lawS3711CNew", fn := fun _ => fun
  | [d] => { results := [.lit (.bool true)], args := [d] }
  | _ => none }
def lawS3711CNewRow : OpenClaim := { program := "ybulkbxvgfmt", sum := "36c7959fa2b71a9ff1b4be86421f1d6c595e187abd80b778ae2b13491817635d", func := "example.com/causeway/causeway/network.LawS3711CNew", spec := "lawS3711CNew", stops := ["fmt.errorf"], inPlace := ["fmt.errorf"], plainKeys := false, apart := false }
/-- NO THEOREM (fmt's text is open here; it may be false): for the released tool's asking of the row's closed facts alone. THE STATEMENT IS 'LawS3711CNewToldSaid' (YbulkbxvgFmtCards.lean). -/
def LawS3711CNewFormAsk : Prop := lawS3711CNewRow.holds Ybaf.pinned (OpenSpec.ofChange lawS3711CNewSpec)

/-- ITS FALSE NEIGHBOUR: 'it returns false'. Refute it at one input. -/
def lawS3711CNewWrong : ChangeSpec := { name := "lawS3711CNew", fn := fun _ => fun
  | [d] => { results := [.lit (.bool false)], args := [d] }
  | _ => none }
def LawS3711CNewWrongFormAsk : Prop := lawS3711CNewRow.holds Ybaf.pinned (OpenSpec.ofChange lawS3711CNewWrong)

/-- 'network.LawS3711CFIFO': WHATEVER THE INPUT: true; the input reads as it did. -/
def lawS3711CFIFOSpec : ChangeSpec := { name := "lawS3711CFIFO", fn := fun _ => fun
  | [d] => { results := [.lit (.bool true)], args := [d] }
  | _ => none }
def lawS3711CFIFORow : OpenClaim := { program := "ybulkbxvgfmt", sum := "36c7959fa2b71a9ff1b4be86421f1d6c595e187abd80b778ae2b13491817635d", func := "example.com/causeway/causeway/network.LawS3711CFIFO", spec := "lawS3711CFIFO", stops := ["fmt.errorf"], inPlace := ["fmt.errorf"], plainKeys := false, apart := false }
/-- NO THEOREM (fmt's text is open here; it may be false): for the released tool's asking of the row's closed facts alone. THE STATEMENT IS 'LawS3711CFIFOToldSaid' (YbulkbxvgFmtCards.lean). -/
def LawS3711CFIFOFormAsk : Prop := lawS3711CFIFORow.holds Ybaf.pinned (OpenSpec.ofChange lawS3711CFIFOSpec)

/-- ITS FALSE NEIGHBOUR: 'it returns false'. Refute it at one input. -/
def lawS3711CFIFOWrong : ChangeSpec := { name := "lawS3711CFIFO", fn := fun _ => fun
  | [d] => { results := [.lit (.bool false)], args := [d] }
  | _ => none }
def LawS3711CFIFOWrongFormAsk : Prop := lawS3711CFIFORow.holds Ybaf.pinned (OpenSpec.ofChange lawS3711CFIFOWrong)

end Rows
end Go.Proofs.YbulkbxvgFmt
