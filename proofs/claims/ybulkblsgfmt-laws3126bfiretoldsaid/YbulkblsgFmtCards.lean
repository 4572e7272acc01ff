/-
  DERIVED. GIVEN WITH THE SEED: THE CARDS: each row of YbulkblsgFmtRows.lean that lists a variable, with what it lists TIED to the program's text (the seventh form; the later family's looks); each row that meets fmt, with fmt's text TOLD by the authors' own Lean function (tested against real Go, not proved from fmt's source: count such statements apart). THE CARD IS WHAT COUNTS. Prove the row's statement (the work); the ties are given (YbulkblsgFmtTie.lean); close each card by the builder's one call (the guide's Derived/Test/ToyasCard.lean, 'card_holds'). Laid BY PROGRAM, IN A SANDBOX (cutbox-door.mjs). By AI agents, Wed Nov 11 2026. No macro, syntax, notation, axiom, sorry.
-/
import Derived.Test.YbulkblsgFmtRows
import GoSem.ClaimSeven
namespace Go.Proofs.YbulkblsgFmt
namespace Rows

/-- THE TOLD CARD OF 'rebeat.LawS3126BFire'. -/
def lawS3126BFireCard : Claim7 := { stood := { row := lawS3126BFireRow, standIns := [], harness := (true, "133a2da99c6a407be4da4921eeaedf8d2142552da03183d556b980244752589f"), looks := true }, told := true, goes := false }
def LawS3126BFireToldSaid : Prop := Claim7.holds Ybaf.pinned (.plain (OpenSpec.ofChange lawS3126BFireSpec)) lawS3126BFireCard
/-- ITS FALSE NEIGHBOUR. Refute it at one input. -/
def LawS3126BFireToldWrongFalsely : Prop := Claim7.holds Ybaf.pinned (.plain (OpenSpec.ofChange lawS3126BFireWrong)) lawS3126BFireCard

/-- THE TOLD AND TIED CARD OF 'capture.LawS3126CBuilt'. -/
def lawS3126CBuiltCard : Claim7 := { stood := { row := lawS3126CBuiltRow, standIns := [], harness := (true, "133a2da99c6a407be4da4921eeaedf8d2142552da03183d556b980244752589f"), looks := true }, told := true, laidByText := true, laidKinds := [.called, .called, .sentinel], laidTests := true, laidLooks := .later, goes := false }
def LawS3126CBuiltToldSaid : Prop := Claim7.holds Ybaf.pinned (.plain (OpenSpec.ofChange lawS3126CBuiltSpec)) lawS3126CBuiltCard
/-- ITS FALSE NEIGHBOUR. Refute it at one input. -/
def LawS3126CBuiltToldWrongFalsely : Prop := Claim7.holds Ybaf.pinned (.plain (OpenSpec.ofChange lawS3126CBuiltWrong)) lawS3126CBuiltCard

/-- THE TOLD AND TIED CARD OF 'capture.LawS3126CRaw'. -/
def lawS3126CRawCard : Claim7 := { stood := { row := lawS3126CRawRow, standIns := [], harness := (true, "133a2da99c6a407be4da4921eeaedf8d2142552da03183d556b980244752589f"), looks := true }, told := true, laidByText := true, laidKinds := [.called, .called, .sentinel], laidTests := true, laidLooks := .later, goes := false }
def LawS3126CRawToldSaid : Prop := Claim7.holds Ybaf.pinned (.plain (OpenSpec.ofChange lawS3126CRawSpec)) lawS3126CRawCard
/-- ITS FALSE NEIGHBOUR. Refute it at one input. -/
def LawS3126CRawToldWrongFalsely : Prop := Claim7.holds Ybaf.pinned (.plain (OpenSpec.ofChange lawS3126CRawWrong)) lawS3126CRawCard
end Rows
end Go.Proofs.YbulkblsgFmt
