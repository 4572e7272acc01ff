/-
  No cell of these rows narrows 'for every input' (looked for: loops, veiled, ifaces, maps, wideKeys, modest, calm, conditions, laid).
  DERIVED. THE GIVEN ROWS OF THIS SEAT. 2 by the template 'for every input the law returns true; each argument reads behind the call as it read before'; 0 by the template 'total and deterministic' (their statements: YbulkblsgTotals.lean).
  GIVEN WITH THE SEED: the statements are not yours to turn. If you find one false, say at which input.
  Laid BY PROGRAM, IN A SANDBOX (cutbox-rows.mjs): the forced cells as the released guide's own fill.sh prints them over the translation fc531bc36d16ac67… (all of the seat's roots in one cut). By AI agents, Wed Nov 11 2026. No macro, syntax, notation, axiom, sorry.
-/
import Derived.Test.YbulkblsgChecked
import GoSem.Claim
import GoSem.ClaimJoined
import GoSem.ClaimMapViews
import Derived.JoinedTies
import Derived.KernelRfl
namespace Go.Proofs.Ybulkblsg
/- THE CELL 'sum', in the pinned program and in every row, IS THE sha256 OF THE DUMP (.gsa) THAT YbulkblsgProg.lean LOADS. Nothing in Lean hashes anything: it is a label: what it is worth is what the hold of that sum in a sandbox is worth. -/
noncomputable def Yba.pinned : Pinned := { name := "ybulkblsg", sum := "fc531bc36d16ac674561cf1e8289062d477f77c0cd79977738626c2cfe9a56d4", checked := Yba.checked }
namespace Rows
def none {H : Type} : Left H := { results := [], args := [] }

/-- 'runs.LawS3126AFirstExact': WHATEVER THE INPUT: true; the input reads as it did. -/
def lawS3126AFirstExactSpec : ChangeSpec := { name := "lawS3126AFirstExact", fn := fun _ => fun
  | [d] => { results := [.lit (.bool true)], args := [d] }
  | _ => none }
def lawS3126AFirstExactRow : OpenClaim := { program := "ybulkblsg", sum := "fc531bc36d16ac674561cf1e8289062d477f77c0cd79977738626c2cfe9a56d4", func := "example.com/rebeat/rebeat/internal/runs.LawS3126AFirstExact", spec := "lawS3126AFirstExact", apart := false }
def LawS3126AFirstExactSaid : Prop := lawS3126AFirstExactRow.holds Yba.pinned (OpenSpec.ofChange lawS3126AFirstExactSpec)

/-- ITS FALSE NEIGHBOUR: 'it returns false'. Refute it at one input. -/
def lawS3126AFirstExactWrong : ChangeSpec := { name := "lawS3126AFirstExact", fn := fun _ => fun
  | [d] => { results := [.lit (.bool false)], args := [d] }
  | _ => none }
def LawS3126AFirstExactWrongFalsely : Prop := lawS3126AFirstExactRow.holds Yba.pinned (OpenSpec.ofChange lawS3126AFirstExactWrong)

/-- 'runs.LawS3126AWalk': WHATEVER THE INPUT: true; the input reads as it did. -/
def lawS3126AWalkSpec : ChangeSpec := { name := "lawS3126AWalk", fn := fun _ => fun
  | [d1, d2, d3] => { results := [.lit (.bool true)], args := [d1, d2, d3] }
  | _ => none }
def lawS3126AWalkRow : OpenClaim := { program := "ybulkblsg", sum := "fc531bc36d16ac674561cf1e8289062d477f77c0cd79977738626c2cfe9a56d4", func := "example.com/rebeat/rebeat/internal/runs.LawS3126AWalk", spec := "lawS3126AWalk", apart := false }
def LawS3126AWalkSaid : Prop := lawS3126AWalkRow.holds Yba.pinned (OpenSpec.ofChange lawS3126AWalkSpec)

/-- ITS FALSE NEIGHBOUR: 'it returns false'. Refute it at one input. -/
def lawS3126AWalkWrong : ChangeSpec := { name := "lawS3126AWalk", fn := fun _ => fun
  | [d1, d2, d3] => { results := [.lit (.bool false)], args := [d1, d2, d3] }
  | _ => none }
def LawS3126AWalkWrongFalsely : Prop := lawS3126AWalkRow.holds Yba.pinned (OpenSpec.ofChange lawS3126AWalkWrong)

end Rows
end Go.Proofs.Ybulkblsg
