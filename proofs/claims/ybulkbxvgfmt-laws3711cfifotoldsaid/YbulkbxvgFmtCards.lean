/-
  DERIVED. GIVEN WITH THE SEED: THE CARDS: each row of YbulkbxvgFmtRows.lean that lists a variable, with what it lists TIED to the program's text (the seventh form; the later family's looks); each row that meets fmt, with fmt's text TOLD by the authors' own Lean function (tested against real Go, not proved from fmt's source: count such statements apart). THE CARD IS WHAT COUNTS. Prove the row's statement (the work); the ties are given (YbulkbxvgFmtTie.lean); close each card by the builder's one call (the guide's Derived/Test/ToyasCard.lean, 'card_holds'). Laid BY PROGRAM, IN A SANDBOX (cutbox-door.mjs). By AI agents, Wed Nov 11 2026. No macro, syntax, notation, axiom, sorry.
-/
import Derived.Test.YbulkbxvgFmtRows
import GoSem.ClaimSeven
namespace Go.Proofs.YbulkbxvgFmt
namespace Rows

/-- THE TOLD CARD OF 'snapshot.LawS3711BRefusesEmptyNetwork'. -/
def lawS3711BRefusesEmptyNetworkCard : Claim7 := { stood := { row := lawS3711BRefusesEmptyNetworkRow, standIns := [], harness := (true, "db248d39cf86be2cb077279eb58c08bf45f9612229b95cf788612443e6f71631"), looks := false }, told := true, goes := false }
def LawS3711BRefusesEmptyNetworkToldSaid : Prop := Claim7.holds Ybaf.pinned (.plain (OpenSpec.ofChange lawS3711BRefusesEmptyNetworkSpec)) lawS3711BRefusesEmptyNetworkCard
/-- ITS FALSE NEIGHBOUR. Refute it at one input. -/
def LawS3711BRefusesEmptyNetworkToldWrongFalsely : Prop := Claim7.holds Ybaf.pinned (.plain (OpenSpec.ofChange lawS3711BRefusesEmptyNetworkWrong)) lawS3711BRefusesEmptyNetworkCard

/-- THE TOLD CARD OF 'network.LawS3711CNew'. -/
def lawS3711CNewCard : Claim7 := { stood := { row := lawS3711CNewRow, standIns := [], harness := (true, "db248d39cf86be2cb077279eb58c08bf45f9612229b95cf788612443e6f71631"), looks := false }, told := true, goes := false }
def LawS3711CNewToldSaid : Prop := Claim7.holds Ybaf.pinned (.plain (OpenSpec.ofChange lawS3711CNewSpec)) lawS3711CNewCard
/-- ITS FALSE NEIGHBOUR. Refute it at one input. -/
def LawS3711CNewToldWrongFalsely : Prop := Claim7.holds Ybaf.pinned (.plain (OpenSpec.ofChange lawS3711CNewWrong)) lawS3711CNewCard

/-- THE TOLD CARD OF 'network.LawS3711CFIFO'. -/
def lawS3711CFIFOCard : Claim7 := { stood := { row := lawS3711CFIFORow, standIns := [], harness := (true, "db248d39cf86be2cb077279eb58c08bf45f9612229b95cf788612443e6f71631"), looks := false }, told := true, goes := false }
def LawS3711CFIFOToldSaid : Prop := Claim7.holds Ybaf.pinned (.plain (OpenSpec.ofChange lawS3711CFIFOSpec)) lawS3711CFIFOCard
/-- ITS FALSE NEIGHBOUR. Refute it at one input. -/
def LawS3711CFIFOToldWrongFalsely : Prop := Claim7.holds Ybaf.pinned (.plain (OpenSpec.ofChange lawS3711CFIFOWrong)) lawS3711CFIFOCard
end Rows
end Go.Proofs.YbulkbxvgFmt
