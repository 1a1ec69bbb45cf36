import Derived.Test.Qxb6003725aRows
import Derived.WalkKit
import Derived.WalkSpells
import Derived.WalkLawsBesides
namespace Go.Proofs.Qxb6003725a
open Go.RowKit

set_option maxHeartbeats 400000 in
theorem bytes15_yes (a0 a1 a2 : Int) (a3 a4 : Bool) (a5 : ByteArray) (w : World) (h : a5.size ≤ 1048576) :
    Calls Try.prog 15 #[.int .i64 a0, .int .i64 a1, .int .i64 a2, .bool a3, .bool a4, .string a5] w fun e w' => e = .returned (.bool true) ∧ w' = w := by
  go_enter Try.func15, Try.ntmps15
  go_wp2
  go_ret
  exact ⟨rfl, rfl⟩

set_option maxHeartbeats 400000 in
theorem bytes15_no (a0 a1 a2 : Int) (a3 a4 : Bool) (a5 : ByteArray) (w : World) (h : ¬ a5.size ≤ 1048576) :
    Calls Try.prog 15 #[.int .i64 a0, .int .i64 a1, .int .i64 a2, .bool a3, .bool a4, .string a5] w fun e w' => e = .returned (.bool false) ∧ w' = w := by
  go_enter Try.func15, Try.ntmps15
  go_wp2
  go_ret
  exact ⟨rfl, rfl⟩

end Go.Proofs.Qxb6003725a
