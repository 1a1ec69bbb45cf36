/-
  No cell of these rows narrows 'for every input' (looked for: loops, veiled, ifaces, maps, wideKeys, modest, calm, conditions, laid).
  DERIVED. THE GIVEN ROWS OF THIS SEAT. 2 by the template 'for every input the law returns true; each argument reads behind the call as it read before'; 0 by the template 'total and deterministic' (their statements: Qxb6003861aFmtTotals.lean).
  GIVEN WITH THE SEED: the statements are not yours to turn. If you find one false, say at which input.
  Laid BY PROGRAM, IN A SANDBOX (cutbox-rows.mjs): the forced cells as the released guide's own fill.sh prints them over the translation dc9c2ffb0094d0cb… (all of the seat's roots in one cut). By AI agents, Wed Nov 11 2026. No macro, syntax, notation, axiom, sorry.
-/
import Derived.Test.Qxb6003861aFmtChecked
import GoSem.Claim
import GoSem.ClaimJoined
import GoSem.ClaimMapViews
import Derived.JoinedTies
import Derived.KernelRfl
namespace Go.Proofs.Qxb6003861aFmt
/- THE CELL 'sum', in the pinned program and in every row, IS THE sha256 OF THE DUMP (.gsa) THAT Qxb6003861aFmtProg.lean LOADS. Nothing in Lean hashes anything: it is a label: what it is worth is what the hold of that sum in a sandbox is worth. -/
noncomputable def Tryf.pinned : Pinned := { name := "qxb6003861afmt", sum := "dc9c2ffb0094d0cb2a62e16a7a56892358fb051efbb597af35863dbbe6717cfc", checked := Tryf.checked }
namespace Rows
def none {H : Type} : Left H := { results := [], args := [] }

/-- 'zzlaws_delivery_c1.PropStepDeliversSureAtOnceApartByRoom': WHATEVER THE INPUT: true; the input reads as it did. -/
def propStepDeliversSureAtOnceApartByRoomSpec : ChangeSpec := { name := "propStepDeliversSureAtOnceApartByRoom", fn := fun _ => fun
  | [d1, d2, d3, d4] => { results := [.lit (.bool true)], args := [d1, d2, d3, d4] }
  | _ => none }
def propStepDeliversSureAtOnceApartByRoomRow : OpenClaim := { program := "qxb6003861afmt", sum := "dc9c2ffb0094d0cb2a62e16a7a56892358fb051efbb597af35863dbbe6717cfc", func := "example.com/churnweave/churnweave/zzlaws_delivery_c1.PropStepDeliversSureAtOnceApartByRoom", spec := "propStepDeliversSureAtOnceApartByRoom", stops := ["fmt.Sprintf"], inPlace := ["fmt.Sprintf"], unfollowed := true, recurses := true, apart := false }
/-- NO THEOREM (fmt's text is open here; it may be false): for the released tool's asking of the row's closed facts alone. THE STATEMENT IS 'PropStepDeliversSureAtOnceApartByRoomToldSaid' (Qxb6003861aFmtCards.lean). -/
def PropStepDeliversSureAtOnceApartByRoomFormAsk : Prop := propStepDeliversSureAtOnceApartByRoomRow.holds Tryf.pinned (OpenSpec.ofChange propStepDeliversSureAtOnceApartByRoomSpec)

/-- ITS FALSE NEIGHBOUR: 'it returns false'. Refute it at one input. -/
def propStepDeliversSureAtOnceApartByRoomWrong : ChangeSpec := { name := "propStepDeliversSureAtOnceApartByRoom", fn := fun _ => fun
  | [d1, d2, d3, d4] => { results := [.lit (.bool false)], args := [d1, d2, d3, d4] }
  | _ => none }
def PropStepDeliversSureAtOnceApartByRoomWrongFormAsk : Prop := propStepDeliversSureAtOnceApartByRoomRow.holds Tryf.pinned (OpenSpec.ofChange propStepDeliversSureAtOnceApartByRoomWrong)

/-- 'zzlaws_delivery_c1.PropStepEndCountsAndEmptiesWaiting': WHATEVER THE INPUT: true; the input reads as it did. -/
def propStepEndCountsAndEmptiesWaitingSpec : ChangeSpec := { name := "propStepEndCountsAndEmptiesWaiting", fn := fun _ => fun
  | [d1, d2, d3, d4] => { results := [.lit (.bool true)], args := [d1, d2, d3, d4] }
  | _ => none }
def propStepEndCountsAndEmptiesWaitingRow : OpenClaim := { program := "qxb6003861afmt", sum := "dc9c2ffb0094d0cb2a62e16a7a56892358fb051efbb597af35863dbbe6717cfc", func := "example.com/churnweave/churnweave/zzlaws_delivery_c1.PropStepEndCountsAndEmptiesWaiting", spec := "propStepEndCountsAndEmptiesWaiting", stops := ["fmt.Sprintf"], inPlace := ["fmt.Sprintf"], unfollowed := true, recurses := true, apart := false }
/-- NO THEOREM (fmt's text is open here; it may be false): for the released tool's asking of the row's closed facts alone. THE STATEMENT IS 'PropStepEndCountsAndEmptiesWaitingToldSaid' (Qxb6003861aFmtCards.lean). -/
def PropStepEndCountsAndEmptiesWaitingFormAsk : Prop := propStepEndCountsAndEmptiesWaitingRow.holds Tryf.pinned (OpenSpec.ofChange propStepEndCountsAndEmptiesWaitingSpec)

/-- ITS FALSE NEIGHBOUR: 'it returns false'. Refute it at one input. -/
def propStepEndCountsAndEmptiesWaitingWrong : ChangeSpec := { name := "propStepEndCountsAndEmptiesWaiting", fn := fun _ => fun
  | [d1, d2, d3, d4] => { results := [.lit (.bool false)], args := [d1, d2, d3, d4] }
  | _ => none }
def PropStepEndCountsAndEmptiesWaitingWrongFormAsk : Prop := propStepEndCountsAndEmptiesWaitingRow.holds Tryf.pinned (OpenSpec.ofChange propStepEndCountsAndEmptiesWaitingWrong)

end Rows
end Go.Proofs.Qxb6003861aFmt
