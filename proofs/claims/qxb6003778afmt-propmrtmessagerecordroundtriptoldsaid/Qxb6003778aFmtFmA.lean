import Derived.Test.Qxb6003778aFmtStG
import Derived.Stop.CallBack
import Derived.Stop.IfaceNil
import Derived.Stop.Asserts
import Derived.RowKitTokens
namespace Go.Proofs.Qxb6003778aFmt
open Go.RowKit Go.Extern.Stop Go.Stop Go.Extern
set_option linter.unusedVariables false
set_option linter.unusedSimpArgs false

theorem Tryf.call20 (args : Array Value) (w : World) : (callFunc 20 args).run Tryf.prog w = (FmtCalls.errorf #[9, 67] #[42] args).run Tryf.prog w :=
  run_callFunc_next Tryf.func20 (by kernel_rfl) (by kernel_rfl) (by kernel_rfl) args w
theorem Tryf.guard (name : String) (w : World) : (FmtStop.guard name).run Tryf.prog w = .ok () w := by kernel_rfl
theorem Tryf.nextTurns : Extern.next FmtCalls.turnsRow = some (FmtCalls.begun #[] #[]) := by kernel_rfl
theorem Tryf.nextReturned : Extern.next FmtCalls.returnedRow = some (FmtCalls.returned #[] #[]) := by kernel_rfl
abbrev fA : ByteArray := ⟨#[65, 83, 32, 37, 100, 32, 111, 114, 32, 37, 100, 32, 105, 110, 32, 97, 32, 114, 101, 99, 111, 114, 100, 32, 111, 102, 32, 116, 119, 111, 45, 111, 99, 116, 101, 116, 32, 65, 83, 32, 110, 117, 109, 98, 101, 114, 115]⟩
abbrev fB : ByteArray := ⟨#[112, 101, 101, 114, 32, 97, 100, 100, 114, 101, 115, 115, 32, 37, 118, 32, 97, 110, 100, 32, 108, 111, 99, 97, 108, 32, 97, 100, 100, 114, 101, 115, 115, 32, 37, 118, 32, 111, 102, 32, 100, 105, 102, 102, 101, 114, 101, 110, 116, 32, 102, 97, 109, 105, 108, 105, 101, 115]⟩
theorem Tryf.fmtA (w : World) : (FmtDoors.printed fA 2).run Tryf.prog w = .ok [(0, 100, false), (1, 100, false)] w := by kernel_rfl
theorem Tryf.fmtB (w : World) : (FmtDoors.printed fB 2).run Tryf.prog w = .ok [(0, 118, false), (1, 118, false)] w := by kernel_rfl
theorem Tryf.act22_100 (name : String) (x : Value) (w : World) : (FmtCalls.act name true 100 false (.iface 22 x)).run Tryf.prog w = .ok (.closed true) w := by kernel_rfl
theorem Tryf.act32_118 (name : String) (x : Value) (w : World) : (FmtCalls.act name true 118 false (.iface 32 x)).run Tryf.prog w = .ok (.call false) w := by kernel_rfl
def Tryf.shape22 : List UInt8 := [8, 6, 0, 0, 0, 0, 0, 0, 0, 117, 105, 110, 116, 51, 50]
theorem Tryf.op22_100 (name : String) (x : Int) (w : World) : (FmtStop.operand name true 100 false (.iface 22 (.int .u32 x))).run Tryf.prog w = .ok (Tryf.shape22, Go.Extern.Stop.digits 8 (x % 2 ^ 64).toNat) w := by kernel_rfl
theorem Tryf.ptr77 (w : World) : (FmtStop.ptrTo "errors.errorString").run Tryf.prog w = .ok 77 w := by kernel_rfl
theorem Tryf.elem77 (w : World) : (elemOf 77).run Tryf.prog w = .ok 79 w := by kernel_rfl
theorem Tryf.str32 (w : World) : (typeStr 32).run Tryf.prog w = .ok "netip.Addr" w := by kernel_rfl
theorem Tryf.invokeString32 (x : Value) (w : World) : (invoke (.fn (.method "String") #[]) #[.iface 32 x]).run Tryf.prog w = .ok (.enter 22 #[x]) w := by kernel_rfl

attribute [local go_sem] Tryf.call20 Tryf.guard Tryf.fmtA Tryf.fmtB Tryf.act22_100 Tryf.act32_118 Tryf.op22_100 Tryf.ptr77 Tryf.elem77 Tryf.str32

/-- How Errorf ends: an error that is not nil. -/
def Failed (w : World) (e : Ending) (w' : World) : Prop := ∃ a : Addr, e = .returned (.iface 77 (.pointer (some a))) ∧ Below w.heap.size w w'

set_option maxHeartbeats 800000 in
theorem errorf_as (F : Interp) (x y : Int) (blk : Nat) (w : World) (hF : F.answers w.tape)
    (hc0 : w.cell? ⟨blk, 0, none⟩ = some (.iface 22 (.int .u32 x))) (hc1 : w.cell? ⟨blk, 1, none⟩ = some (.iface 22 (.int .u32 y))) :
    Calls Tryf.prog 12 #[.string fA, .slice (some ⟨blk, 0, none⟩) 2 2] w (Failed w) := by
  have hF' := hF
  unfold Interp.answers at hF'
  go_enter Tryf.func12, Tryf.ntmps12
  go_wp2
  apply rows_value Tryf.nextTurns
  case hr =>
    go_simp
    exact ⟨rfl, rfl⟩
  case h =>
    go_wp2
    go_ret
    exact ⟨_, rfl, below_drew ((Below.refl _ _).alloc (Nat.le_refl _) _)⟩

set_option maxHeartbeats 800000 in
theorem errorf_addr (F : Interp) (u v : Value) (blk : Nat) (w : World) (hF : F.answers w.tape)
    (hu : ∀ W, Below w.heap.size w W → Calls Tryf.prog 22 #[u] W (Texted W)) (hv : ∀ W, Below w.heap.size w W → Calls Tryf.prog 22 #[v] W (Texted W))
    (hc0 : w.cell? ⟨blk, 0, none⟩ = some (.iface 32 u)) (hc1 : w.cell? ⟨blk, 1, none⟩ = some (.iface 32 v)) :
    Calls Tryf.prog 12 #[.string fB, .slice (some ⟨blk, 0, none⟩) 2 2] w (Failed w) := by
  have HF : Hid (∀ W, Below w.heap.size w W → F.answers W.tape) := fun W hb => by rw [hb.tape]; exact hF
  have HU : Hid (∀ W, Below w.heap.size w W → Calls Tryf.prog 22 #[u] W (Texted W)) := hu
  have HV : Hid (∀ W, Below w.heap.size w W → Calls Tryf.prog 22 #[v] W (Texted W)) := hv
  have HC : Hid (∀ W, Below w.heap.size w W → W.cell? ⟨blk, 0, none⟩ = some (.iface 32 u) ∧ W.cell? ⟨blk, 1, none⟩ = some (.iface 32 v)) := fun W hb => ⟨cell_later hb hc0, cell_later hb hc1⟩
  clear hu hv
  go_enter Tryf.func12, Tryf.ntmps12
  go_wp2
  apply rows_call Tryf.nextTurns
  case hr =>
    go_simp
    exact ⟨⟨rfl, rfl, rfl⟩, rfl⟩
  case hi => exact Tryf.invokeString32 _ _
  case hc =>
    refine (HU.out _ (Below.refl _ _)).mono ?_
    rintro e w1 ⟨s1, rfl, hb1⟩
    obtain ⟨d0, d1⟩ := HC.out _ hb1
    apply rows_call Tryf.nextReturned
    case hr =>
      go_simp
      exact ⟨⟨rfl, rfl, rfl⟩, rfl⟩
    case hi => exact Tryf.invokeString32 _ _
    case hc =>
      refine (HV.out _ hb1).mono ?_
      rintro e w2 ⟨s2, rfl, hb2⟩
      have hb02 : Below w.heap.size w w2 := hb1.trans (hb2.mono hb1.size)
      obtain ⟨g0, g1⟩ := HC.out _ hb02
      have hF2 := HF.out _ hb02
      unfold Interp.answers at hF2
      apply rows_value Tryf.nextReturned
      case hr =>
        go_simp
        exact ⟨rfl, rfl⟩
      case h =>
        go_wp2
        go_ret
        exact ⟨_, rfl, below_drew (hb02.alloc hb02.size _)⟩

end Go.Proofs.Qxb6003778aFmt
