/-
  DERIVED. GIVEN WITH THE SEED: THE CARDS: each row of Qxb6003713aFmtRows.lean that lists a variable, with what it lists TIED to the program's text (the seventh form; the later family's looks); each row that meets fmt, with fmt's text TOLD by the authors' own Lean function (tested against real Go, not proved from fmt's source: count such statements apart). THE CARD IS WHAT COUNTS. Prove the row's statement (the work); the ties are given (Qxb6003713aFmtTie.lean); close each card by the builder's one call (the guide's Derived/Test/ToyasCard.lean, 'card_holds'). Laid BY PROGRAM, IN A SANDBOX (cutbox-door.mjs). By AI agents, Wed Nov 11 2026. No macro, syntax, notation, axiom, sorry.
-/
import Derived.Test.Qxb6003713aFmtRows
import GoSem.ClaimSeven
namespace Go.Proofs.Qxb6003713aFmt
namespace Rows

/-- THE TOLD AND TIED CARD OF 'zzlaws_wire_c3.PropNotificationKeepaliveRoundTrip'. -/
def propNotificationKeepaliveRoundTripCard : Claim7 := { stood := { row := propNotificationKeepaliveRoundTripRow, standIns := [], harness := (true, "89c739b4e3a4c68b359b136f3a0103eef30c07255cb050b2a177b032810ab501"), looks := true }, told := true, laidByText := true, laidKinds := [.sentinel], laidTests := true, laidLooks := .later, goes := false }
def PropNotificationKeepaliveRoundTripToldSaid : Prop := Claim7.holds Tryf.pinned (.plain (OpenSpec.ofChange propNotificationKeepaliveRoundTripSpec)) propNotificationKeepaliveRoundTripCard
/-- ITS FALSE NEIGHBOUR. Refute it at one input. -/
def PropNotificationKeepaliveRoundTripToldWrongFalsely : Prop := Claim7.holds Tryf.pinned (.plain (OpenSpec.ofChange propNotificationKeepaliveRoundTripWrong)) propNotificationKeepaliveRoundTripCard

/-- THE TOLD AND TIED CARD OF 'zzlaws_wire_c4.PropPackerGreedyPartitionWithinRoomFree'. -/
def propPackerGreedyPartitionWithinRoomFreeCard : Claim7 := { stood := { row := propPackerGreedyPartitionWithinRoomFreeRow, standIns := [], harness := (true, "89c739b4e3a4c68b359b136f3a0103eef30c07255cb050b2a177b032810ab501"), looks := true }, told := true, laidByText := true, laidKinds := [.data], laidTests := true, laidLooks := .later, goes := false }
def PropPackerGreedyPartitionWithinRoomFreeToldSaid : Prop := Claim7.holds Tryf.pinned (.plain (OpenSpec.ofChange propPackerGreedyPartitionWithinRoomFreeSpec)) propPackerGreedyPartitionWithinRoomFreeCard
/-- ITS FALSE NEIGHBOUR. Refute it at one input. -/
def PropPackerGreedyPartitionWithinRoomFreeToldWrongFalsely : Prop := Claim7.holds Tryf.pinned (.plain (OpenSpec.ofChange propPackerGreedyPartitionWithinRoomFreeWrong)) propPackerGreedyPartitionWithinRoomFreeCard

/-- THE TOLD AND TIED CARD OF 'zzlaws_wire_c4.PropAnnouncerWritesWhatMarshalWrites'. -/
def propAnnouncerWritesWhatMarshalWritesCard : Claim7 := { stood := { row := propAnnouncerWritesWhatMarshalWritesRow, standIns := [], harness := (true, "89c739b4e3a4c68b359b136f3a0103eef30c07255cb050b2a177b032810ab501"), looks := true }, told := true, laidByText := true, laidKinds := [.called, .called, .data, .zero], laidTests := true, laidLooks := .later, goes := false }
def PropAnnouncerWritesWhatMarshalWritesToldSaid : Prop := Claim7.holds Tryf.pinned (.plain (OpenSpec.ofChange propAnnouncerWritesWhatMarshalWritesSpec)) propAnnouncerWritesWhatMarshalWritesCard
/-- ITS FALSE NEIGHBOUR. Refute it at one input. -/
def PropAnnouncerWritesWhatMarshalWritesToldWrongFalsely : Prop := Claim7.holds Tryf.pinned (.plain (OpenSpec.ofChange propAnnouncerWritesWhatMarshalWritesWrong)) propAnnouncerWritesWhatMarshalWritesCard
end Rows
end Go.Proofs.Qxb6003713aFmt
