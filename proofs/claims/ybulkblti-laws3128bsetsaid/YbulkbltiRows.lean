/-
  No cell of these rows narrows 'for every input' (looked for: loops, veiled, ifaces, maps, wideKeys, modest, calm, conditions, laid).
  DERIVED. THE GIVEN ROWS OF THIS SEAT. 1 by the template 'for every input the law returns true; each argument reads behind the call as it read before'; 0 by the template 'total and deterministic' (their statements: YbulkbltiTotals.lean).
  GIVEN WITH THE SEED: the statements are not yours to turn. If you find one false, say at which input.
  Laid BY PROGRAM, IN A SANDBOX (cutbox-rows.mjs): the forced cells as the released guide's own fill.sh prints them over the translation d77575ee76ebed1f… (all of the seat's roots in one cut). By AI agents, Wed Nov 11 2026. No macro, syntax, notation, axiom, sorry.
-/
import Derived.Test.YbulkbltiChecked
import GoSem.Claim
import GoSem.ClaimJoined
import GoSem.ClaimMapViews
import Derived.JoinedTies
import Derived.KernelRfl
namespace Go.Proofs.Ybulkblti
/- THE CELL 'sum', in the pinned program and in every row, IS THE sha256 OF THE DUMP (.gsa) THAT YbulkbltiProg.lean LOADS. Nothing in Lean hashes anything: it is a label: what it is worth is what the hold of that sum in a sandbox is worth. -/
noncomputable def Yba.pinned : Pinned := { name := "ybulkblti", sum := "d77575ee76ebed1f2b9419392db5307ce819c058a06537fcf53cce5f9ce7312f", checked := Yba.checked }
namespace Rows
def none {H : Type} : Left H := { results := [], args := [] }

/-- 'bracewell.LawS3128BSet': WHATEVER THE INPUT: true; the input reads as it did. -/
def lawS3128BSetSpec : ChangeSpec := { name := "lawS3128BSet", fn := fun _ => fun
  | [d1, d2, d3, d4, d5, d6, d7] => { results := [.lit (.bool true)], args := [d1, d2, d3, d4, d5, d6, d7] }
  | _ => none }
def lawS3128BSetRow : OpenClaim := { program := "ybulkblti", sum := "d77575ee76ebed1f2b9419392db5307ce819c058a06537fcf53cce5f9ce7312f", func := "example.com/bracewell/bracewell.LawS3128BSet", spec := "lawS3128BSet", unfollowed := true, recurses := true, apart := false }
def LawS3128BSetSaid : Prop := lawS3128BSetRow.holds Yba.pinned (OpenSpec.ofChange lawS3128BSetSpec)

/-- ITS FALSE NEIGHBOUR: 'it returns false'. Refute it at one input. -/
def lawS3128BSetWrong : ChangeSpec := { name := "lawS3128BSet", fn := fun _ => fun
  | [d1, d2, d3, d4, d5, d6, d7] => { results := [.lit (.bool false)], args := [d1, d2, d3, d4, d5, d6, d7] }
  | _ => none }
def LawS3128BSetWrongFalsely : Prop := lawS3128BSetRow.holds Yba.pinned (OpenSpec.ofChange lawS3128BSetWrong)

end Rows
end Go.Proofs.Ybulkblti
