/-
  Closed facts for walks over fmt's stopped front 'fmt.errorf' (it calls its operands' methods) and over errors.Is, at this program's numbers. After the guide's HostportCalls.lean, GuardFmt.lean and SentryIs.lean.
-/
import Derived.Test.Qxb6003713aFmtRows
import Derived.WalkKit
import Derived.WalkSpells
import Derived.Stop.CallBack
import Derived.Stop.IfaceNil
import Derived.LaidEql
import Derived.Stop.Asserts
import Derived.RowKitTokens
namespace Go.Proofs.Qxb6003713aFmt
open Go.RowKit Go.Extern.Stop Go.Stop Go.Extern

theorem Tryf.call45 (args : Array Value) (w : World) : (callFunc 45 args).run Tryf.prog w = (FmtCalls.errorf #[9, 133] #[28] args).run Tryf.prog w :=
  run_callFunc_next Tryf.func45 (by kernel_rfl) (by kernel_rfl) (by kernel_rfl) args w
theorem Tryf.guard (name : String) (w : World) : (FmtStop.guard name).run Tryf.prog w = .ok () w := by kernel_rfl
theorem Tryf.nextTurns : Extern.next FmtCalls.turnsRow = some (FmtCalls.begun #[] #[]) := by kernel_rfl
theorem Tryf.nextReturned : Extern.next FmtCalls.returnedRow = some (FmtCalls.returned #[] #[]) := by kernel_rfl

-- the text of NOTIFICATION of so many octets, 2 operands
theorem Tryf.fmt0r (w : World) : (FmtDoors.printed ⟨#[37, 119, 58, 32, 78, 79, 84, 73, 70, 73, 67, 65, 84, 73, 79, 78, 32, 111, 102, 32, 37, 100, 32, 111, 99, 116, 101, 116, 115]⟩ 2).run Tryf.prog w = .ok [(0, 119, false), (1, 100, false)] w := by kernel_rfl
def Tryf.shape3 : List UInt8 := [5, 3, 0, 0, 0, 0, 0, 0, 0, 105, 110, 116]
theorem Tryf.op3_100w (name : String) (x : Int) (w : World) : (FmtStop.operand name true 100 false (.iface 3 (.int .i64 x))).run Tryf.prog w = .ok (Tryf.shape3, Go.Extern.Stop.digits 8 (x % 2 ^ 64).toNat) w := by kernel_rfl
theorem Tryf.ptr152 (w : World) : (FmtStop.ptrTo "errors.errorString").run Tryf.prog w = .ok 152 w := by kernel_rfl
theorem Tryf.elem152 (w : World) : (elemOf 152).run Tryf.prog w = .ok 154 w := by kernel_rfl
theorem Tryf.isError152 (w : World) : (FmtDoors.textMethod 152 "Error").run Tryf.prog w = .ok true w := by kernel_rfl
abbrev Tryf.name152 : String := String.singleton (Char.ofNat 42) ++ "errors.errorString"
def Tryf.plain152 : List UInt8 := 14 :: FmtStop.pack Tryf.name152.toUTF8.data.toList
theorem Tryf.opPlain152_119w (name : String) (a : Addr) (s : ByteArray) (w : World) (hc : w.cell? a = some (.string s)) :
    (FmtStop.operand name true 119 false (.iface 152 (.pointer (some a)))).run Tryf.prog w = .ok (Tryf.plain152, s.data.toList) w := by
  have h1 : (typeStr 152).run Tryf.prog w = .ok Tryf.name152 w := by kernel_rfl
  have d2 : Tryf.t152.desc = .pointer 154 := rfl
  have d3 : Tryf.t154.desc = .named "errors.errorString" 153 := rfl
  simp [FmtStop.operand, h1, d2, d3, run_load, hc, Tryf.plain152]
theorem Tryf.ptr134 (w : World) : (FmtStop.ptrTo "fmt.wrapError").run Tryf.prog w = .ok 134 w := by kernel_rfl
theorem Tryf.elem134 (w : World) : (elemOf 134).run Tryf.prog w = .ok 229 w := by kernel_rfl
theorem Tryf.isError134 (w : World) : (FmtDoors.textMethod 134 "Error").run Tryf.prog w = .ok true w := by kernel_rfl
theorem Tryf.act3_100w (name : String) (x : Value) (w : World) : (FmtCalls.act name true 100 false (.iface 3 x)).run Tryf.prog w = .ok (.closed true) w := by kernel_rfl
theorem Tryf.act152_119w (name : String) (x : Value) (w : World) : (FmtCalls.act name true 119 false (.iface 152 x)).run Tryf.prog w = .ok (.closed true) w := by kernel_rfl
attribute [local go_sem] Tryf.act3_100w Tryf.act152_119w Tryf.call45 Tryf.guard Tryf.fmt0r Tryf.op3_100w Tryf.ptr152 Tryf.elem152 Tryf.isError152 Tryf.ptr134 Tryf.elem134 Tryf.isError134

set_option maxHeartbeats 800000 in
theorem errorf_short (F : Interp) (n : Int) (t : ByteArray) (a : Addr) (blk : Nat) (w : World) (hF : F.answers w.tape)
    (hc0 : w.cell? ⟨blk, 0, none⟩ = some (.iface 152 (.pointer (some a)))) (hc1 : w.cell? ⟨blk, 1, none⟩ = some (.iface 3 (.int .i64 n))) (hs : w.cell? a = some (.string t)) :
    Calls Tryf.prog 23 #[.string ⟨#[37, 119, 58, 32, 78, 79, 84, 73, 70, 73, 67, 65, 84, 73, 79, 78, 32, 111, 102, 32, 37, 100, 32, 111, 99, 116, 101, 116, 115]⟩, .slice (some ⟨blk, 0, none⟩) 2 2] w fun e w' =>
      e = .returned (.iface 134 (.pointer (some ⟨w.heap.size, 0, none⟩))) ∧ ∃ s, w' = (w.alloc (.cells #[.string s, .iface 152 (.pointer (some a))] 229)).drew := by
  have hF' := hF
  unfold Interp.answers at hF'
  have hop := Tryf.opPlain152_119w "fmt.errorf" a t w hs
  go_enter Tryf.func23, Tryf.ntmps23
  go_wp2
  apply rows_value Tryf.nextTurns
  case hr =>
    go_simp
    exact ⟨rfl, rfl⟩
  case h =>
    go_wp2
    go_ret
    exact ⟨rfl, _, rfl⟩

/-! ### errors.Is(e, x), e a *fmt.wrapError that wraps x itself -/
theorem Tryf.isTypeOf (v : Value) (w : World) : (Extern.ReflectliteType.typeOf #[.iface 152 v]).run Tryf.prog w = .ok (.iface 138 (.agg #[.pointer (some ⟨10, 152, none⟩)])) w := by kernel_rfl
theorem Tryf.isComparable (w : World) : (callFunc 143 #[.agg #[.pointer (some ⟨10, 152, none⟩)]]).run Tryf.prog w = .ok (.value (.bool true)) w := by kernel_rfl
theorem Tryf.isMethodComparable (v : Value) (w : World) : (Go.method 347 138 v "Comparable").run Tryf.prog w = .ok (143, v) w := by kernel_rfl
theorem Tryf.methodUnwrap (v : Value) (w : World) : (Go.method 347 134 v "Unwrap").run Tryf.prog w = .ok (139, v) w := by kernel_rfl
theorem Tryf.isComp : (Tryf.prog.info? 152).map (·.comparable) = some true := by kernel_rfl
theorem Tryf.isSize : (Tryf.prog.info? 154).map (·.size) = some 1 := by kernel_rfl
theorem Tryf.noIsW (v : Value) (xT : TypeId) (w : World) : (Instr.typeAssert (.iface 134 v) xT 140 true).run Tryf.prog w = .ok (.tuple #[.nilIface, .bool false]) w := run_typeAssert_lacksB Tryf.underlying140 (by kernel_rfl) (by kernel_rfl) v xT w
theorem Tryf.hasUnwrapW (v : Value) (xT : TypeId) (w : World) : (Instr.typeAssert (.iface 134 v) xT 143 true).run Tryf.prog w = .ok (.tuple #[.iface 134 v, .bool true]) w := run_typeAssert_hasB Tryf.underlying143 (by kernel_rfl) v xT w

set_option maxHeartbeats 800000 in
theorem is_wrap_same (pb po : Nat) (b : Addr) (w : World) (h1 : w.cell? ⟨pb, po + 1, none⟩ = some (.iface 152 (.pointer (some b)))) :
    Calls Tryf.prog 11 #[.iface 134 (.pointer (some ⟨pb, po, none⟩)), .iface 152 (.pointer (some b))] w fun e w' => e = .returned (.bool true) ∧ w' = w := by
  obtain ⟨i, hi, hcmp⟩ := Option.map_eq_some_iff.1 Tryf.isComp
  obtain ⟨j, hj, hjs⟩ := Option.map_eq_some_iff.1 Tryf.isSize
  have h8 := @run_callFunc_extern Tryf.prog 27 _ Extern.ReflectliteType.typeOf Tryf.func27 (by kernel_rfl) (by kernel_rfl) (by kernel_rfl) (by kernel_rfl)
  have tT := Tryf.isTypeOf
  have cT := Tryf.isComparable
  have mR := Tryf.isMethodComparable
  have mU := Tryf.methodUnwrap
  have nW := Tryf.noIsW
  have uW := Tryf.hasUnwrapW
  have heq := run_eql_iface_ptr_same (P := Tryf.prog) w b Tryf.underlying28 Tryf.underlying152 hi hcmp hj
  have hty := run_eql_iface_types (P := Tryf.prog) 134 152 (.pointer (some ⟨pb, po, none⟩)) (.pointer (some b)) Tryf.underlying28 (by decide) w
  go_enter Tryf.func11, Tryf.ntmps11
  go_wp2
  refine wp_loop_rounds 2 ?_
  rw [rounds_succ]
  go_wp2
  rw [rounds_succ]
  go_wp2
  go_ret
  exact ⟨rfl, rfl⟩

end Go.Proofs.Qxb6003713aFmt
