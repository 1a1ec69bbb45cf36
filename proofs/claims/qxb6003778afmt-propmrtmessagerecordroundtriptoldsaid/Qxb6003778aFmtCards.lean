/-
  DERIVED. GIVEN WITH THE SEED: THE CARDS: each row of Qxb6003778aFmtRows.lean that lists a variable, with what it lists TIED to the program's text (the seventh form; the later family's looks); each row that meets fmt, with fmt's text TOLD by the authors' own Lean function (tested against real Go, not proved from fmt's source: count such statements apart). THE CARD IS WHAT COUNTS. Prove the row's statement (the work); the ties are given (Qxb6003778aFmtTie.lean); close each card by the builder's one call (the guide's Derived/Test/ToyasCard.lean, 'card_holds'). Laid BY PROGRAM, IN A SANDBOX (cutbox-door.mjs). By AI agents, Wed Nov 11 2026. No macro, syntax, notation, axiom, sorry.
-/
import Derived.Test.Qxb6003778aFmtRows
import GoSem.ClaimSeven
namespace Go.Proofs.Qxb6003778aFmt
namespace Rows

/-- THE TOLD AND TIED CARD OF 'zzlaws_mrt_c1.PropMRTMessageRecordRoundTrip'. -/
def propMRTMessageRecordRoundTripCard : Claim7 := { stood := { row := propMRTMessageRecordRoundTripRow, standIns := [], harness := (true, "50d5c538a7952850997075f08c5bd7dfa891ed493938e89823ce768a7ced8d66"), looks := false }, told := true, laidByText := true, laidKinds := [.called, .called, .zero], laidTests := true, laidLooks := .later, goes := false }
def PropMRTMessageRecordRoundTripToldSaid : Prop := Claim7.holds Tryf.pinned (.plain (OpenSpec.ofChange propMRTMessageRecordRoundTripSpec)) propMRTMessageRecordRoundTripCard
/-- ITS FALSE NEIGHBOUR. Refute it at one input. -/
def PropMRTMessageRecordRoundTripToldWrongFalsely : Prop := Claim7.holds Tryf.pinned (.plain (OpenSpec.ofChange propMRTMessageRecordRoundTripWrong)) propMRTMessageRecordRoundTripCard
end Rows
end Go.Proofs.Qxb6003778aFmt
