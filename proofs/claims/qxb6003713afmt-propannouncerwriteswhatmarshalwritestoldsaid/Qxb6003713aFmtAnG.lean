import Derived.Test.Qxb6003713aFmtAnF
namespace Go.Proofs.Qxb6003713aFmt
open Go.RowKit
set_option linter.unusedVariables false
set_option linter.unusedSimpArgs false

/-- A route as it came in. -/
structure RI where
  ty : Nat
  rd : Nat → UInt8
  es : Nat → UInt8
  tag : Nat
  mac : Nat → UInt8
  n : Nat
  ip : Nat → UInt8
  l1 : Nat
  l2 : Nat
  h2 : Bool

/-- Its cells. -/
def RI.ins (r : RI) : Array Value := #[.int .u8 r.ty, .int .u8 (r.rd 0).toNat, .int .u8 (r.rd 1).toNat, .int .u8 (r.rd 2).toNat, .int .u8 (r.rd 3).toNat, .int .u8 (r.rd 4).toNat, .int .u8 (r.rd 5).toNat, .int .u8 (r.rd 6).toNat, .int .u8 (r.rd 7).toNat, .int .u8 (r.es 0).toNat, .int .u8 (r.es 1).toNat, .int .u8 (r.es 2).toNat, .int .u8 (r.es 3).toNat, .int .u8 (r.es 4).toNat, .int .u8 (r.es 5).toNat, .int .u8 (r.es 6).toNat, .int .u8 (r.es 7).toNat, .int .u8 (r.es 8).toNat, .int .u8 (r.es 9).toNat, .int .u32 r.tag, .int .u8 (r.mac 0).toNat, .int .u8 (r.mac 1).toNat, .int .u8 (r.mac 2).toNat, .int .u8 (r.mac 3).toNat, .int .u8 (r.mac 4).toNat, .int .u8 (r.mac 5).toNat, .int .u8 r.n, .int .u8 (r.ip 0).toNat, .int .u8 (r.ip 1).toNat, .int .u8 (r.ip 2).toNat, .int .u8 (r.ip 3).toNat, .int .u8 (r.ip 4).toNat, .int .u8 (r.ip 5).toNat, .int .u8 (r.ip 6).toNat, .int .u8 (r.ip 7).toNat, .int .u8 (r.ip 8).toNat, .int .u8 (r.ip 9).toNat, .int .u8 (r.ip 10).toNat, .int .u8 (r.ip 11).toNat, .int .u8 (r.ip 12).toNat, .int .u8 (r.ip 13).toNat, .int .u8 (r.ip 14).toNat, .int .u8 (r.ip 15).toNat, .int .u32 r.l1, .int .u32 r.l2, .bool r.h2]

/-- The parts of an address of kind n. -/
def aHi (n : Nat) (o : Nat → UInt8) : Nat := if n = 4 then 0 else if n = 16 then be8 o else 0
def aLo (n : Nat) (o : Nat → UInt8) : Nat := if n = 4 then lo4 o else if n = 16 then be8 (fun i => o (8 + i)) else 0
def aZ (p4 p6 : Addr) (n : Nat) : Option Addr := if n = 4 then some p4 else if n = 16 then some p6 else none
theorem addr_parts (p4 p6 : Addr) (n : Nat) (o : Nat → UInt8) : addrOf p4 p6 n o = .agg #[.int .u64 (aHi n o : Nat), .int .u64 (aLo n o : Nat), .pointer (aZ p4 p6 n)] := by
  unfold addrOf aHi aLo aZ
  split
  · rfl
  · split <;> rfl
theorem zaddr_c (p4 p6 : Addr) (n : Nat) (xs : Array Value) (o : Nat → UInt8) (w : World) (hz : Zs w p4 p6) (hx : Oct xs 16 o) :
    Calls Tryf.prog 15 #[.int .u8 n, .agg xs] w fun e w' => e = .returned (.agg #[.int .u64 (aHi n o : Nat), .int .u64 (aLo n o : Nat), .pointer (aZ p4 p6 n)]) ∧ Below w.heap.size w w' := by
  rw [← addr_parts]
  exact zaddr_any p4 p6 n xs o w hz hx
theorem as_c (p4 p6 : Addr) (n : Nat) (o : Nat → UInt8) (w : World) (hz : Zs w p4 p6) : Calls Tryf.prog 51 #[.agg #[.int .u64 (aHi n o : Nat), .int .u64 (aLo n o : Nat), .pointer (aZ p4 p6 n)]] w (Octets (octOf n o) w) := by
  rw [← addr_parts]
  exact as_any p4 p6 n o w hz
theorem bits_c (p4 p6 : Addr) (n : Nat) (o : Nat → UInt8) (w : World) (hz : Zs w p4 p6) (h : n = 0 ∨ n = 4 ∨ n = 16) : Calls Tryf.prog 63 #[.agg #[.int .u64 (aHi n o : Nat), .int .u64 (aLo n o : Nat), .pointer (aZ p4 p6 n)]] w fun e w' => e = .returned (.int .i64 (8 * n : Nat)) ∧ Below w.heap.size w w' := by
  rw [← addr_parts]
  exact bits_any p4 p6 n o w hz h

/-- The route's cells, as the project's Route. -/
def RI.outs (r : RI) (p4 p6 : Addr) : Array Value := #[.int .u8 r.ty, .int .u8 (r.rd 0).toNat, .int .u8 (r.rd 1).toNat, .int .u8 (r.rd 2).toNat, .int .u8 (r.rd 3).toNat, .int .u8 (r.rd 4).toNat, .int .u8 (r.rd 5).toNat, .int .u8 (r.rd 6).toNat, .int .u8 (r.rd 7).toNat, .int .u8 (r.es 0).toNat, .int .u8 (r.es 1).toNat, .int .u8 (r.es 2).toNat, .int .u8 (r.es 3).toNat, .int .u8 (r.es 4).toNat, .int .u8 (r.es 5).toNat, .int .u8 (r.es 6).toNat, .int .u8 (r.es 7).toNat, .int .u8 (r.es 8).toNat, .int .u8 (r.es 9).toNat, .int .u32 r.tag, .int .u8 (r.mac 0).toNat, .int .u8 (r.mac 1).toNat, .int .u8 (r.mac 2).toNat, .int .u8 (r.mac 3).toNat, .int .u8 (r.mac 4).toNat, .int .u8 (r.mac 5).toNat, .int .u64 (aHi r.n r.ip : Nat), .int .u64 (aLo r.n r.ip : Nat), .pointer (aZ p4 p6 r.n), .int .u64 0, .int .u64 0, .pointer none, .int .u8 0, .int .u64 0, .int .u64 0, .pointer none, .int .u32 r.l1, .int .u32 r.l2, .bool r.h2]

theorem zero88 : ((Tryf.prog.info? 88).bind (·.zero)).map Value.cells = some #[.int .u8 0, .int .u8 0, .int .u8 0, .int .u8 0, .int .u8 0, .int .u8 0, .int .u8 0, .int .u8 0, .int .u8 0, .int .u8 0, .int .u8 0, .int .u8 0, .int .u8 0, .int .u8 0, .int .u8 0, .int .u8 0, .int .u8 0, .int .u8 0, .int .u8 0, .int .u32 0, .int .u8 0, .int .u8 0, .int .u8 0, .int .u8 0, .int .u8 0, .int .u8 0, .int .u64 0, .int .u64 0, .pointer none, .int .u64 0, .int .u64 0, .pointer none, .int .u8 0, .int .u64 0, .int .u64 0, .pointer none, .int .u32 0, .int .u32 0, .bool false] := by kernel_rfl

/-- The NLRI's length. -/
def nlenOf (ty n : Nat) (h2 : Bool) : Int := if ty = 2 then (if h2 then 35 + (n : Int) + 3 else 35 + (n : Int)) else if ty = 3 then 15 + (n : Int) else if ty = 4 then 21 + (n : Int) else -1
def RI.len (r : RI) : Int := nlenOf r.ty r.n r.h2

set_option maxRecDepth 100000 in
theorem nlen_any (r : RI) (w : World) (hn : r.n < 256) : Calls Tryf.prog 14 #[.agg r.ins] w fun e w' => e = .returned (.int .i64 r.len) ∧ Below w.heap.size w w' := by
  have HW := Hid.mk'' ((Below.refl w.heap.size w).alloc (Nat.le_refl _) (.cells r.ins 53))
  have HB := Hid.mk'' (Blk.new w 53 r.ins)
  obtain ⟨c0, c26, c45⟩ : (w.alloc (.cells r.ins 53)).cell? ⟨w.heap.size, 0, none⟩ = some (.int .u8 r.ty) ∧ (w.alloc (.cells r.ins 53)).cell? ⟨w.heap.size, 26, none⟩ = some (.int .u8 r.n) ∧ (w.alloc (.cells r.ins 53)).cell? ⟨w.heap.size, 45, none⟩ = some (.bool r.h2) := ⟨HB.out.cell 0, HB.out.cell 26, HB.out.cell 45⟩
  unfold RI.len
  clear HB
  generalize r.ty = ty at *
  generalize r.n = n at *
  generalize r.h2 = h2 at *
  generalize r.ins = xs at *
  have i1 : (n : Int) < 256 := by omega
  clear hn
  by_cases k2 : ty = 2
  · subst k2
    cases h2
    · have HE : Hid (nlenOf 2 n false = 35 + (n : Int)) := rfl
      go_enter Tryf.func14, Tryf.ntmps14
      go_wp2_with fail
      go_ret
      exact ⟨by rw [HE.out]; rfl, HW.out⟩
    · have HE : Hid (nlenOf 2 n true = 35 + (n : Int) + 3) := rfl
      go_enter Tryf.func14, Tryf.ntmps14
      go_wp2_with fail
      go_ret
      exact ⟨by rw [HE.out]; rfl, HW.out⟩
  · have q2 : ¬ (ty : Int) = 2 := by omega
    by_cases k3 : ty = 3
    · subst k3
      have HE : Hid (nlenOf 3 n h2 = 15 + (n : Int)) := rfl
      go_enter Tryf.func14, Tryf.ntmps14
      go_wp2_with fail
      go_ret
      exact ⟨by rw [HE.out]; rfl, HW.out⟩
    · have q3 : ¬ (ty : Int) = 3 := by omega
      by_cases k4 : ty = 4
      · subst k4
        have HE : Hid (nlenOf 4 n h2 = 21 + (n : Int)) := rfl
        go_enter Tryf.func14, Tryf.ntmps14
        go_wp2_with fail
        go_ret
        exact ⟨by rw [HE.out]; rfl, HW.out⟩
      · have q4 : ¬ (ty : Int) = 4 := by omega
        have HE : Hid (nlenOf ty n h2 = -1) := by unfold nlenOf; rw [if_neg k2, if_neg k3, if_neg k4]; rfl
        clear k2 k3 k4
        go_enter Tryf.func14, Tryf.ntmps14
        go_wp2_with fail
        go_ret
        exact ⟨by rw [HE.out]; rfl, HW.out⟩

end Go.Proofs.Qxb6003713aFmt
