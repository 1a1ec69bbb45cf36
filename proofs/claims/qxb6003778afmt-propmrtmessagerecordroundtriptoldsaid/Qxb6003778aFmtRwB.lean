import Derived.Test.Qxb6003778aFmtRwA
import Derived.Test.Qxb6003778aFmtTie
import Derived.Test.Qxb6003778aFmtCards
import Derived.Test.Qxb6003778aFmtOpen
import Derived.Stop.JoinedTold
import Derived.Stop.JoinedAt
import Derived.Lib.SmallJoins
import Derived.OpenVars
import Derived.SevenTiedAt
namespace Go.Proofs.Qxb6003778aFmt
open Go.ChangeShapes Go.WideShapes Go.ChangeAt Go.RowKit Go.Extern.Stop Go.Stop Go.Extern
set_option linter.unusedVariables false
set_option linter.unusedSimpArgs false

namespace RwRow
theorem own : ownKnob Tryf.prog.godebug = none := by kernel_rfl
theorem laidOut : laidOutB Tryf.prog = true := by kernel_rfl

/-! One start that fits: the three marks as their initialisers lay them. -/
abbrev lowOf (P : Program) : Nat := (World.holding P default ⟨#[], #[], []⟩).heap.size
def laidWorldOf (P : Program) (os : Os) : World :=
  let w0 := World.holding P os ⟨#[.cells #[.bool false, .string ⟨#[]⟩] 86, .cells #[.bool true, .string ⟨#[]⟩] 86], #[], []⟩
  { w0 with heap := (w0.heap.modify 1 fun
      | .cells _ t frozen => .cells #[.pointer (some ⟨lowOf P, 0, none⟩)] t frozen
      | o => o).modify 2 fun
      | .cells _ t frozen => .cells #[.pointer (some ⟨lowOf P + 1, 0, none⟩)] t frozen
      | o => o }
theorem laid_met (os : Os) (args : Array Value) : laidMet Tryf.prog Rows.propMRTMessageRecordRoundTripRow.laid ((laidWorldOf Tryf.prog os).forCall (fun _ _ => 0) ⟨#[], args, []⟩).memory :=
  laidMet_of_run' 8 (by kernel_rfl) (by kernel_rfl)

theorem stops : Tryf.pinned.checked.prog.stops = Rows.propMRTMessageRecordRoundTripRow.stops := by kernel_rfl
theorem stopKnobs : Tryf.pinned.checked.prog.stopKnobs = [] := by kernel_rfl
theorem quiet (os : Os) : Stop.quiet Tryf.pinned.checked.prog os := by
  intro k hk
  rw [stopKnobs] at hk
  cases hk

end RwRow
end Go.Proofs.Qxb6003778aFmt
