/-
  NARROWER THAN 'FOR EVERY INPUT', by the rows' own cells (each row's printed sentence says how): PropMRTMessageRecordRoundTrip: laid.
  DERIVED. THE GIVEN ROWS OF THIS SEAT. 1 by the template 'for every input the law returns true; each argument reads behind the call as it read before'; 0 by the template 'total and deterministic' (their statements: Qxb6003778aFmtTotals.lean).
  GIVEN WITH THE SEED: the statements are not yours to turn. If you find one false, say at which input.
  Laid BY PROGRAM, IN A SANDBOX (cutbox-rows.mjs): the forced cells as the released guide's own fill.sh prints them over the translation fbf61247c232d14e… (all of the seat's roots in one cut). By AI agents, Wed Nov 11 2026. No macro, syntax, notation, axiom, sorry.
-/
import Derived.Test.Qxb6003778aFmtChecked
import GoSem.Claim
import GoSem.ClaimJoined
import GoSem.ClaimMapViews
import Derived.JoinedTies
import Derived.KernelRfl
namespace Go.Proofs.Qxb6003778aFmt
/- THE CELL 'sum', in the pinned program and in every row, IS THE sha256 OF THE DUMP (.gsa) THAT Qxb6003778aFmtProg.lean LOADS. Nothing in Lean hashes anything: it is a label: what it is worth is what the hold of that sum in a sandbox is worth. -/
noncomputable def Tryf.pinned : Pinned := { name := "qxb6003778afmt", sum := "fbf61247c232d14e47f2b6d599e6e6cc2ce3f2d806269ee5a6546b7caa3ce85d", checked := Tryf.checked }
namespace Rows
def none {H : Type} : Left H := { results := [], args := [] }

/- WHAT THE LISTED PACKAGE-LEVEL VARIABLES READ AS WHEN THE CALL BEGINS. Each datum BY PROGRAM (the guide's laid-datum.mjs) off the statement by which the dump's own 'gosem.cut.vars' lays the variable. In a bare row this is a premise. The card (Qxb6003778aFmtCards.lean) ties it to the program's text. -/
def laid_net_netip_z4 {H : Type} : DataW H := .agg [.ptr (.agg [.lit (.bool false), .lit (.string [])])]
def laid_net_netip_z6noz {H : Type} : DataW H := .agg [.ptr (.agg [.lit (.bool true), .lit (.string [])])]
def laid_net_netip_z0 {H : Type} : DataW H := .agg [.nil]

/-- 'zzlaws_mrt_c1.PropMRTMessageRecordRoundTrip': WHATEVER THE INPUT: true; the input reads as it did. -/
def propMRTMessageRecordRoundTripSpec : ChangeSpec := { name := "propMRTMessageRecordRoundTrip", fn := fun _ => fun
  | [d1, d2, d3, d4, d5, d6, d7, d8, d9, d10] => { results := [.lit (.bool true)], args := [d1, d2, d3, d4, d5, d6, d7, d8, d9, d10] }
  | _ => none }
def propMRTMessageRecordRoundTripRow : OpenClaim := { program := "qxb6003778afmt", sum := "fbf61247c232d14e47f2b6d599e6e6cc2ce3f2d806269ee5a6546b7caa3ce85d", func := "example.com/weftwire/weftwire/zzlaws_mrt_c1.PropMRTMessageRecordRoundTrip", spec := "propMRTMessageRecordRoundTrip", stops := ["fmt.errorf, its operands' methods called"], inPlace := ["fmt.errorf"], unfollowed := true, recurses := true, named := ["net/netip.z4", "net/netip.z6noz", "encoding/binary.BigEndian", "net/netip.z0"], apart := false, laid := [("net/netip.z4", laid_net_netip_z4), ("net/netip.z6noz", laid_net_netip_z6noz), ("net/netip.z0", laid_net_netip_z0)] }
/-- NO THEOREM (fmt's text is open here; it may be false): for the released tool's asking of the row's closed facts alone. THE STATEMENT IS 'PropMRTMessageRecordRoundTripToldSaid' (Qxb6003778aFmtCards.lean). -/
def PropMRTMessageRecordRoundTripFormAsk : Prop := propMRTMessageRecordRoundTripRow.holds Tryf.pinned (OpenSpec.ofChange propMRTMessageRecordRoundTripSpec)

/-- ITS FALSE NEIGHBOUR: 'it returns false'. Refute it at one input. -/
def propMRTMessageRecordRoundTripWrong : ChangeSpec := { name := "propMRTMessageRecordRoundTrip", fn := fun _ => fun
  | [d1, d2, d3, d4, d5, d6, d7, d8, d9, d10] => { results := [.lit (.bool false)], args := [d1, d2, d3, d4, d5, d6, d7, d8, d9, d10] }
  | _ => none }
def PropMRTMessageRecordRoundTripWrongFormAsk : Prop := propMRTMessageRecordRoundTripRow.holds Tryf.pinned (OpenSpec.ofChange propMRTMessageRecordRoundTripWrong)

end Rows
end Go.Proofs.Qxb6003778aFmt
