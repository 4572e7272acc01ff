/-
  NARROWER THAN 'FOR EVERY INPUT', by the rows' own cells (each row's printed sentence says how): LawS3126CBuilt: ifaces, laid · LawS3126CRaw: ifaces, laid.
  DERIVED. THE GIVEN ROWS OF THIS SEAT. 3 by the template 'for every input the law returns true; each argument reads behind the call as it read before'; 0 by the template 'total and deterministic' (their statements: YbulkblsgFmtTotals.lean).
  GIVEN WITH THE SEED: the statements are not yours to turn. If you find one false, say at which input.
  Laid BY PROGRAM, IN A SANDBOX (cutbox-rows.mjs): the forced cells as the released guide's own fill.sh prints them over the translation 0f93a071234f9fff… (all of the seat's roots in one cut). By AI agents, Wed Nov 11 2026. No macro, syntax, notation, axiom, sorry.
-/
import Derived.Test.YbulkblsgFmtChecked
import GoSem.Claim
import GoSem.ClaimJoined
import GoSem.ClaimMapViews
import Derived.JoinedTies
import Derived.KernelRfl
namespace Go.Proofs.YbulkblsgFmt
/- THE CELL 'sum', in the pinned program and in every row, IS THE sha256 OF THE DUMP (.gsa) THAT YbulkblsgFmtProg.lean LOADS. Nothing in Lean hashes anything: it is a label: what it is worth is what the hold of that sum in a sandbox is worth. -/
noncomputable def Ybaf.pinned : Pinned := { name := "ybulkblsgfmt", sum := "0f93a071234f9fffbe9653808dafb931d0cf571156b1a8c9b5bbdcaf7c7227ca", checked := Ybaf.checked }
namespace Rows
def none {H : Type} : Left H := { results := [], args := [] }

/- WHAT THE LISTED PACKAGE-LEVEL VARIABLES READ AS WHEN THE CALL BEGINS. Each datum BY PROGRAM (the guide's laid-datum.mjs) off the statement by which the dump's own 'gosem.cut.vars' lays the variable. In a bare row this is a premise. The card (YbulkblsgFmtCards.lean) ties it to the program's text. -/
def laid_net_netip_z4 {H : Type} : DataW H := .agg [.ptr (.agg [.lit (.bool false), .lit (.string [])])]
def laid_net_netip_z6noz {H : Type} : DataW H := .agg [.ptr (.agg [.lit (.bool true), .lit (.string [])])]
def laid_example_com_rebeat_rebeat_internal_capture_errFragmented {H : Type} : DataW H := .iface "*errors.errorString" (.ptr (.agg [.lit (.string [102, 114, 97, 103, 109, 101, 110, 116, 101, 100, 32, 84, 67, 80, 32, 115, 101, 103, 109, 101, 110, 116, 58, 32, 105, 116, 115, 32, 108, 101, 110, 103, 116, 104, 32, 105, 115, 32, 110, 111, 116, 32, 107, 110, 111, 119, 110])]))

/-- 'rebeat.LawS3126BFire': WHATEVER THE INPUT: true; the input reads as it did. -/
def lawS3126BFireSpec : ChangeSpec := { name := "lawS3126BFire", fn := fun _ => fun
  | [d1, d2, d3, d4, d5, d6] => { results := [.lit (.bool true)], args := [d1, d2, d3, d4, d5, d6] }
  | _ => none }
def lawS3126BFireRow : OpenClaim := { program := "ybulkblsgfmt", sum := "0f93a071234f9fffbe9653808dafb931d0cf571156b1a8c9b5bbdcaf7c7227ca", func := "example.com/rebeat/rebeat.LawS3126BFire", spec := "lawS3126BFire", stops := ["fmt.errorf, its operands' methods called", "fmt.Sprintf, its operands' methods called"], inPlace := ["fmt.errorf"], unfollowed := true, recurses := true, apart := false }
/-- NO THEOREM (fmt's text is open here; it may be false): for the released tool's asking of the row's closed facts alone. THE STATEMENT IS 'LawS3126BFireToldSaid' (YbulkblsgFmtCards.lean). -/
def LawS3126BFireFormAsk : Prop := lawS3126BFireRow.holds Ybaf.pinned (OpenSpec.ofChange lawS3126BFireSpec)

/-- ITS FALSE NEIGHBOUR: 'it returns false'. Refute it at one input. -/
def lawS3126BFireWrong : ChangeSpec := { name := "lawS3126BFire", fn := fun _ => fun
  | [d1, d2, d3, d4, d5, d6] => { results := [.lit (.bool false)], args := [d1, d2, d3, d4, d5, d6] }
  | _ => none }
def LawS3126BFireWrongFormAsk : Prop := lawS3126BFireRow.holds Ybaf.pinned (OpenSpec.ofChange lawS3126BFireWrong)

/-- 'capture.LawS3126CBuilt': WHATEVER THE INPUT: true; the input reads as it did. -/
def lawS3126CBuiltSpec : ChangeSpec := { name := "lawS3126CBuilt", vars := ["example.com/rebeat/rebeat/internal/capture.errFragmented"], fn := fun _ => fun
  | [d1, d2, d3, d4, d5, d6, d7, g1] => { results := [.lit (.bool true)], args := [d1, d2, d3, d4, d5, d6, d7], vars := [g1] }
  | _ => none }
def lawS3126CBuiltRow : OpenClaim := { program := "ybulkblsgfmt", sum := "0f93a071234f9fffbe9653808dafb931d0cf571156b1a8c9b5bbdcaf7c7227ca", func := "example.com/rebeat/rebeat/internal/capture.LawS3126CBuilt", spec := "lawS3126CBuilt", stops := ["fmt.errorf, its operands' methods called", "fmt.Sprintf, its operands' methods called"], inPlace := ["fmt.errorf", "internal/reflectlite.TypeOf"], unfollowed := true, recurses := true, named := ["example.com/rebeat/rebeat/internal/capture.errFragmented", "encoding/binary.BigEndian", "net/netip.z4", "net/netip.z6noz"], ifaces := true, apart := false, laid := [("net/netip.z4", laid_net_netip_z4), ("net/netip.z6noz", laid_net_netip_z6noz), ("example.com/rebeat/rebeat/internal/capture.errFragmented", laid_example_com_rebeat_rebeat_internal_capture_errFragmented)] }
/-- NO THEOREM (fmt's text is open here; it may be false): for the released tool's asking of the row's closed facts alone. THE STATEMENT IS 'LawS3126CBuiltToldSaid' (YbulkblsgFmtCards.lean). -/
def LawS3126CBuiltFormAsk : Prop := lawS3126CBuiltRow.holds Ybaf.pinned (OpenSpec.ofChange lawS3126CBuiltSpec)

/-- ITS FALSE NEIGHBOUR: 'it returns false'. Refute it at one input. -/
def lawS3126CBuiltWrong : ChangeSpec := { name := "lawS3126CBuilt", vars := ["example.com/rebeat/rebeat/internal/capture.errFragmented"], fn := fun _ => fun
  | [d1, d2, d3, d4, d5, d6, d7, g1] => { results := [.lit (.bool false)], args := [d1, d2, d3, d4, d5, d6, d7], vars := [g1] }
  | _ => none }
def LawS3126CBuiltWrongFormAsk : Prop := lawS3126CBuiltRow.holds Ybaf.pinned (OpenSpec.ofChange lawS3126CBuiltWrong)

/-- 'capture.LawS3126CRaw': WHATEVER THE INPUT: true; the input reads as it did. -/
def lawS3126CRawSpec : ChangeSpec := { name := "lawS3126CRaw", vars := ["example.com/rebeat/rebeat/internal/capture.errFragmented"], fn := fun _ => fun
  | [d1, d2, g1] => { results := [.lit (.bool true)], args := [d1, d2], vars := [g1] }
  | _ => none }
def lawS3126CRawRow : OpenClaim := { program := "ybulkblsgfmt", sum := "0f93a071234f9fffbe9653808dafb931d0cf571156b1a8c9b5bbdcaf7c7227ca", func := "example.com/rebeat/rebeat/internal/capture.LawS3126CRaw", spec := "lawS3126CRaw", stops := ["fmt.errorf, its operands' methods called", "fmt.Sprintf, its operands' methods called"], inPlace := ["fmt.errorf"], unfollowed := true, recurses := true, named := ["encoding/binary.BigEndian", "example.com/rebeat/rebeat/internal/capture.errFragmented", "net/netip.z4", "net/netip.z6noz"], ifaces := true, apart := false, laid := [("net/netip.z4", laid_net_netip_z4), ("net/netip.z6noz", laid_net_netip_z6noz), ("example.com/rebeat/rebeat/internal/capture.errFragmented", laid_example_com_rebeat_rebeat_internal_capture_errFragmented)] }
/-- NO THEOREM (fmt's text is open here; it may be false): for the released tool's asking of the row's closed facts alone. THE STATEMENT IS 'LawS3126CRawToldSaid' (YbulkblsgFmtCards.lean). -/
def LawS3126CRawFormAsk : Prop := lawS3126CRawRow.holds Ybaf.pinned (OpenSpec.ofChange lawS3126CRawSpec)

/-- ITS FALSE NEIGHBOUR: 'it returns false'. Refute it at one input. -/
def lawS3126CRawWrong : ChangeSpec := { name := "lawS3126CRaw", vars := ["example.com/rebeat/rebeat/internal/capture.errFragmented"], fn := fun _ => fun
  | [d1, d2, g1] => { results := [.lit (.bool false)], args := [d1, d2], vars := [g1] }
  | _ => none }
def LawS3126CRawWrongFormAsk : Prop := lawS3126CRawRow.holds Ybaf.pinned (OpenSpec.ofChange lawS3126CRawWrong)

end Rows
end Go.Proofs.YbulkblsgFmt
