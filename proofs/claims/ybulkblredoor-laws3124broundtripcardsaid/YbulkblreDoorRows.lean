/-
  NARROWER THAN 'FOR EVERY INPUT', by the rows' own cells (each row's printed sentence says how): LawS3124BModel: laid · LawS3124BRoundTrip: laid.
  DERIVED. THE GIVEN ROWS OF THIS SEAT. 2 by the template 'for every input the law returns true; each argument reads behind the call as it read before'; 0 by the template 'total and deterministic' (their statements: YbulkblreDoorTotals.lean).
  GIVEN WITH THE SEED: the statements are not yours to turn. If you find one false, say at which input.
  Laid BY PROGRAM, IN A SANDBOX (cutbox-rows.mjs): the forced cells as the released guide's own fill.sh prints them over the translation 33dd006979df36be… (all of the seat's roots in one cut). By AI agents, Wed Nov 11 2026. No macro, syntax, notation, axiom, sorry.
-/
import Derived.Test.YbulkblreDoorChecked
import GoSem.Claim
import GoSem.ClaimJoined
import GoSem.ClaimMapViews
import Derived.JoinedTies
import Derived.KernelRfl
namespace Go.Proofs.YbulkblreDoor
/- THE CELL 'sum', in the pinned program and in every row, IS THE sha256 OF THE DUMP (.gsa) THAT YbulkblreDoorProg.lean LOADS. Nothing in Lean hashes anything: it is a label: what it is worth is what the hold of that sum in a sandbox is worth. -/
noncomputable def Ybad.pinned : Pinned := { name := "ybulkblredoor", sum := "33dd006979df36bee2e3a14662dfc38e8c15255dec3c2550e8ebb629111d973d", checked := Ybad.checked }
namespace Rows
def none {H : Type} : Left H := { results := [], args := [] }

/- WHAT THE LISTED PACKAGE-LEVEL VARIABLES READ AS WHEN THE CALL BEGINS. Each datum BY PROGRAM (the guide's laid-datum.mjs) off the statement by which the dump's own 'gosem.cut.vars' lays the variable. In a bare row this is a premise. The card (YbulkblreDoorCards.lean) ties it to the program's text. -/
def laid_example_com_slotwise_slotwise_pms_suffixKinds {H : Type} : DataW H := .slice [.lit (.string [95, 97, 108, 112, 104, 97]), .lit (.string [95, 98, 101, 116, 97]), .lit (.string [95, 112, 114, 101]), .lit (.string [95, 114, 99]), .lit (.string [95, 112])] []

/-- 'pms.LawS3124BModel': WHATEVER THE INPUT: true; the input reads as it did. -/
def lawS3124BModelSpec : ChangeSpec := { name := "lawS3124BModel", vars := ["example.com/slotwise/slotwise/pms.suffixKinds"], fn := fun _ => fun
  | [d1, d2, d3, d4, d5, g1] => { results := [.lit (.bool true)], args := [d1, d2, d3, d4, d5], vars := [g1] }
  | _ => none }
def lawS3124BModelRow : OpenClaim := { program := "ybulkblredoor", sum := "33dd006979df36bee2e3a14662dfc38e8c15255dec3c2550e8ebb629111d973d", func := "example.com/slotwise/slotwise/pms.LawS3124BModel", spec := "lawS3124BModel", named := ["example.com/slotwise/slotwise/pms.suffixKinds"], apart := false, laid := [("example.com/slotwise/slotwise/pms.suffixKinds", laid_example_com_slotwise_slotwise_pms_suffixKinds)] }
def LawS3124BModelSaid : Prop := lawS3124BModelRow.holds Ybad.pinned (OpenSpec.ofChange lawS3124BModelSpec)

/-- ITS FALSE NEIGHBOUR: 'it returns false'. Refute it at one input. -/
def lawS3124BModelWrong : ChangeSpec := { name := "lawS3124BModel", vars := ["example.com/slotwise/slotwise/pms.suffixKinds"], fn := fun _ => fun
  | [d1, d2, d3, d4, d5, g1] => { results := [.lit (.bool false)], args := [d1, d2, d3, d4, d5], vars := [g1] }
  | _ => none }
def LawS3124BModelWrongFalsely : Prop := lawS3124BModelRow.holds Ybad.pinned (OpenSpec.ofChange lawS3124BModelWrong)

/-- 'pms.LawS3124BRoundTrip': WHATEVER THE INPUT: true; the input reads as it did. -/
def lawS3124BRoundTripSpec : ChangeSpec := { name := "lawS3124BRoundTrip", vars := ["example.com/slotwise/slotwise/pms.suffixKinds"], fn := fun _ => fun
  | [d1, d2, d3, d4, d5, d6, g1] => { results := [.lit (.bool true)], args := [d1, d2, d3, d4, d5, d6], vars := [g1] }
  | _ => none }
def lawS3124BRoundTripRow : OpenClaim := { program := "ybulkblredoor", sum := "33dd006979df36bee2e3a14662dfc38e8c15255dec3c2550e8ebb629111d973d", func := "example.com/slotwise/slotwise/pms.LawS3124BRoundTrip", spec := "lawS3124BRoundTrip", named := ["example.com/slotwise/slotwise/pms.suffixKinds"], apart := false, laid := [("example.com/slotwise/slotwise/pms.suffixKinds", laid_example_com_slotwise_slotwise_pms_suffixKinds)] }
def LawS3124BRoundTripSaid : Prop := lawS3124BRoundTripRow.holds Ybad.pinned (OpenSpec.ofChange lawS3124BRoundTripSpec)

/-- ITS FALSE NEIGHBOUR: 'it returns false'. Refute it at one input. -/
def lawS3124BRoundTripWrong : ChangeSpec := { name := "lawS3124BRoundTrip", vars := ["example.com/slotwise/slotwise/pms.suffixKinds"], fn := fun _ => fun
  | [d1, d2, d3, d4, d5, d6, g1] => { results := [.lit (.bool false)], args := [d1, d2, d3, d4, d5, d6], vars := [g1] }
  | _ => none }
def LawS3124BRoundTripWrongFalsely : Prop := lawS3124BRoundTripRow.holds Ybad.pinned (OpenSpec.ofChange lawS3124BRoundTripWrong)

end Rows
end Go.Proofs.YbulkblreDoor
