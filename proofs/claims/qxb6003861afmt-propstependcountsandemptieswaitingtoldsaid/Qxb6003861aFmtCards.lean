/-
  DERIVED. GIVEN WITH THE SEED: THE CARDS: each row of Qxb6003861aFmtRows.lean that lists a variable, with what it lists TIED to the program's text (the seventh form; the later family's looks); each row that meets fmt, with fmt's text TOLD by the authors' own Lean function (tested against real Go, not proved from fmt's source: count such statements apart). THE CARD IS WHAT COUNTS. Prove the row's statement (the work); the ties are given (Qxb6003861aFmtTie.lean); close each card by the builder's one call (the guide's Derived/Test/ToyasCard.lean, 'card_holds'). Laid BY PROGRAM, IN A SANDBOX (cutbox-door.mjs). By AI agents, Wed Nov 11 2026. No macro, syntax, notation, axiom, sorry.
-/
import Derived.Test.Qxb6003861aFmtRows
import GoSem.ClaimSeven
namespace Go.Proofs.Qxb6003861aFmt
namespace Rows

/-- THE TOLD CARD OF 'zzlaws_delivery_c1.PropStepDeliversSureAtOnceApartByRoom'. -/
def propStepDeliversSureAtOnceApartByRoomCard : Claim7 := { stood := { row := propStepDeliversSureAtOnceApartByRoomRow, standIns := [], harness := (true, "ba72699b1d49b5fbca80a18bfd320358ff346c1686fcb920640a199ed8340485"), looks := false }, told := true, goes := false }
def PropStepDeliversSureAtOnceApartByRoomToldSaid : Prop := Claim7.holds Tryf.pinned (.plain (OpenSpec.ofChange propStepDeliversSureAtOnceApartByRoomSpec)) propStepDeliversSureAtOnceApartByRoomCard
/-- ITS FALSE NEIGHBOUR. Refute it at one input. -/
def PropStepDeliversSureAtOnceApartByRoomToldWrongFalsely : Prop := Claim7.holds Tryf.pinned (.plain (OpenSpec.ofChange propStepDeliversSureAtOnceApartByRoomWrong)) propStepDeliversSureAtOnceApartByRoomCard

/-- THE TOLD CARD OF 'zzlaws_delivery_c1.PropStepEndCountsAndEmptiesWaiting'. -/
def propStepEndCountsAndEmptiesWaitingCard : Claim7 := { stood := { row := propStepEndCountsAndEmptiesWaitingRow, standIns := [], harness := (true, "ba72699b1d49b5fbca80a18bfd320358ff346c1686fcb920640a199ed8340485"), looks := false }, told := true, goes := false }
def PropStepEndCountsAndEmptiesWaitingToldSaid : Prop := Claim7.holds Tryf.pinned (.plain (OpenSpec.ofChange propStepEndCountsAndEmptiesWaitingSpec)) propStepEndCountsAndEmptiesWaitingCard
/-- ITS FALSE NEIGHBOUR. Refute it at one input. -/
def PropStepEndCountsAndEmptiesWaitingToldWrongFalsely : Prop := Claim7.holds Tryf.pinned (.plain (OpenSpec.ofChange propStepEndCountsAndEmptiesWaitingWrong)) propStepEndCountsAndEmptiesWaitingCard
end Rows
end Go.Proofs.Qxb6003861aFmt
