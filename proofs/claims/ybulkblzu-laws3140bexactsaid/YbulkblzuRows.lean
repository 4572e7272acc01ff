/-
  No cell of these rows narrows 'for every input' (looked for: loops, veiled, ifaces, maps, wideKeys, modest, calm, conditions, laid).
  DERIVED. THE GIVEN ROWS OF THIS SEAT. 1 by the template 'for every input the law returns true; each argument reads behind the call as it read before'; 0 by the template 'total and deterministic' (their statements: YbulkblzuTotals.lean).
  GIVEN WITH THE SEED: the statements are not yours to turn. If you find one false, say at which input.
  Laid BY PROGRAM, IN A SANDBOX (cutbox-rows.mjs): the forced cells as the released guide's own fill.sh prints them over the translation 8d5d969770f74445… (all of the seat's roots in one cut). By AI agents, Wed Nov 11 2026. No macro, syntax, notation, axiom, sorry.
-/
import Derived.Test.YbulkblzuChecked
import GoSem.Claim
import GoSem.ClaimJoined
import GoSem.ClaimMapViews
import Derived.JoinedTies
import Derived.KernelRfl
namespace Go.Proofs.Ybulkblzu
/- THE CELL 'sum', in the pinned program and in every row, IS THE sha256 OF THE DUMP (.gsa) THAT YbulkblzuProg.lean LOADS. Nothing in Lean hashes anything: it is a label: what it is worth is what the hold of that sum in a sandbox is worth. -/
noncomputable def Yba.pinned : Pinned := { name := "ybulkblzu", sum := "8d5d969770f744459bb89d5409dac932080ff8f291a99d1bea47e23245a83997", checked := Yba.checked }
namespace Rows
def none {H : Type} : Left H := { results := [], args := [] }

/-- 'tumblepeer.LawS3140BExact': WHATEVER THE INPUT: true; the input reads as it did. -/
def lawS3140BExactSpec : ChangeSpec := { name := "lawS3140BExact", fn := fun _ => fun
  | [d1, d2] => { results := [.lit (.bool true)], args := [d1, d2] }
  | _ => none }
def lawS3140BExactRow : OpenClaim := { program := "ybulkblzu", sum := "8d5d969770f744459bb89d5409dac932080ff8f291a99d1bea47e23245a83997", func := "example.com/tumblepeer/tumblepeer.LawS3140BExact", spec := "lawS3140BExact", plainKeys := false, apart := false }
def LawS3140BExactSaid : Prop := lawS3140BExactRow.holds Yba.pinned (OpenSpec.ofChange lawS3140BExactSpec)

/-- ITS FALSE NEIGHBOUR: 'it returns false'. Refute it at one input. -/
def lawS3140BExactWrong : ChangeSpec := { name := "lawS3140BExact", fn := fun _ => fun
  | [d1, d2] => { results := [.lit (.bool false)], args := [d1, d2] }
  | _ => none }
def LawS3140BExactWrongFalsely : Prop := lawS3140BExactRow.holds Yba.pinned (OpenSpec.ofChange lawS3140BExactWrong)

end Rows
end Go.Proofs.Ybulkblzu
