import Derived.Test.Qxb6003713aFmtNoD
import Derived.Test.Qxb6003713aFmtOpen
import Derived.Test.Qxb6003713aFmtRows
import Derived.Test.Qxb6003713aFmtTie
import Derived.Test.Qxb6003713aFmtCards
import Derived.Stop.JoinedTold
import Derived.Stop.JoinedAt
import Derived.Stop.LaidErr
import Derived.Lib.SmallJoins
import Derived.OpenVars
import Derived.SevenTiedAt
import Derived.ProofKit
namespace Go.Proofs.Qxb6003713aFmt
open Go.ChangeShapes Go.WideShapes Go.ChangeAt Go.RowKit Go.Extern.Stop Go.Stop Go.Extern

namespace NoRow
theorem own : ownKnob Tryf.prog.godebug = none := by kernel_rfl
theorem laidOut : laidOutB Tryf.prog = true := by kernel_rfl
theorem gE : Tryf.prog.globalNamed (Rows.propNotificationKeepaliveRoundTripSpec.vars.getD 0 "") = some 0 := by kernel_rfl
theorem gEType : (Tryf.prog.globals[0]?).map (·.type) = some 28 := by kernel_rfl
theorem starred (s : String) (h : s = String.singleton (Char.ofNat 42)) : s ++ "errors.errorString" = Tryf.name152 := by subst h; rfl
theorem row152 (nm : String) (hn : nm = Tryf.name152) (u : TypeId) (h : Tryf.prog.typeName? 3 u = some nm) : u = 152 :=
  typeName_ptr_named (nm := "errors.errorString") (by rw [starred]; · kernel_rfl
                                                      · decide) (by kernel_rfl) (by decide) u (by rw [starred, h, hn]; decide)

/-! One start that fits: the sentinel as its initialiser lays it. -/
abbrev errS : ByteArray := { data := #[109, 97, 108, 102, 111, 114, 109, 101, 100, 32, 66, 71, 80, 32, 109, 101, 115, 115, 97, 103, 101] }
abbrev lowOf (P : Program) : Nat := (World.holding P default ⟨#[], #[], []⟩).heap.size
def laidWorldOf (P : Program) (os : Os) (g : Nat) (s : ByteArray) : World :=
  let w0 := World.holding P os ⟨#[.cells #[.string s] 154], #[], []⟩
  { w0 with heap := w0.heap.modify g fun
      | .cells _ t frozen => .cells #[.iface 152 (.pointer (some ⟨lowOf P, 0, none⟩))] t frozen
      | o => o }
theorem laid_met (os : Os) (args : Array Value) : laidMet Tryf.prog Rows.propNotificationKeepaliveRoundTripRow.laid ((laidWorldOf Tryf.prog os 0 errS).forCall (fun _ _ => 0) ⟨#[], args, []⟩).memory :=
  laidMet_of_run (ps := [.cell 0 0, .cell (lowOf Tryf.prog) 0]) 8 (by kernel_rfl) (by kernel_rfl) (by kernel_rfl)

end NoRow
end Go.Proofs.Qxb6003713aFmt
