import Derived.Test.Qxb6003713aFmtPaO
import Derived.Lib.Endian
import Derived.Lib.EndianBits
import Derived.Lib.EndianMore
import Derived.LaidEql
namespace Go.Proofs.Qxb6003713aFmt
open Go.RowKit
set_option linter.unusedSimpArgs false
set_option linter.unusedVariables false

/-- An address. -/
def AV (hi lo : Nat) (z : Option Addr) : Value := .agg #[.int .u64 hi, .int .u64 lo, .pointer z]

/-- The three marks of net/netip. -/
structure Zs (w : World) (p4 p6 : Addr) : Prop where
  c4 : w.cell? ⟨2, 0, none⟩ = some (.pointer (some p4))
  c6 : w.cell? ⟨3, 0, none⟩ = some (.pointer (some p6))
  c0 : w.cell? ⟨4, 0, none⟩ = some (.pointer none)
  ne : p4 ≠ p6
  h4 : ∃ c t, w.heap[p4.block]? = some (.cells c t (0, 0))
  h6 : ∃ c t, w.heap[p6.block]? = some (.cells c t (0, 0))

theorem Zs.later {w w' : World} {p4 p6 : Addr} (h : Zs w p4 p6) (hb : Below w.heap.size w w') : Zs w' p4 p6 := by
  obtain ⟨c, t, e⟩ := h.h4
  obtain ⟨c', t', e'⟩ := h.h6
  exact ⟨cell_later hb h.c4, cell_later hb h.c6, cell_later hb h.c0, h.ne, ⟨c, t, (hb.block _ (Array.getElem?_eq_some_iff.1 e).1).trans e⟩, ⟨c', t', (hb.block _ (Array.getElem?_eq_some_iff.1 e').1).trans e'⟩⟩

/-- The marks told apart. -/
theorem eqd_none (d : Nat) (p : Addr) (w : World) : (Op.equalIn (d + 1) 58 (.pointer (some p)) (.pointer none)).run Tryf.prog w = .ok false w := by
  simp [Op.equalIn, run_underlying Tryf.underlying58, samePointer]
theorem eqd_nil (d : Nat) (w : World) : (Op.equalIn (d + 1) 58 (.pointer none) (.pointer none)).run Tryf.prog w = .ok true w := by
  simp [Op.equalIn, run_underlying Tryf.underlying58, samePointer]
theorem eqd_same (d : Nat) (p : Addr) (w : World) : (Op.equalIn (d + 1) 58 (.pointer (some p)) (.pointer (some p))).run Tryf.prog w = .ok true w := by
  simp [Op.equalIn, run_underlying Tryf.underlying58, samePointer, run_sameAddr_same]
theorem eqd_other (d : Nat) {w : World} {p4 p6 : Addr} (h : Zs w p4 p6) : (Op.equalIn (d + 1) 58 (.pointer (some p6)) (.pointer (some p4))).run Tryf.prog w = .ok false w := by
  obtain ⟨c, t, e⟩ := h.h4
  obtain ⟨c', t', e'⟩ := h.h6
  simp [Op.equalIn, run_underlying Tryf.underlying58, samePointer, run_sameAddr_other w h.ne.symm e' e]
theorem eqz_none (p : Addr) (w : World) : (Op.equalIn 9999 58 (.pointer (some p)) (.pointer none)).run Tryf.prog w = .ok false w := eqd_none 9998 p w
theorem eqz_nil (w : World) : (Op.equalIn 9999 58 (.pointer none) (.pointer none)).run Tryf.prog w = .ok true w := eqd_nil 9998 w
theorem eqz_same (p : Addr) (w : World) : (Op.equalIn 9999 58 (.pointer (some p)) (.pointer (some p))).run Tryf.prog w = .ok true w := eqd_same 9998 p w
theorem Zs.other {w : World} {p4 p6 : Addr} (h : Zs w p4 p6) : (Op.equalIn 9999 58 (.pointer (some p6)) (.pointer (some p4))).run Tryf.prog w = .ok false w := eqd_other 9998 h

/-- An array of octets. -/
abbrev ar4 (o : Nat → UInt8) : Array Value := #[.int .u8 (o 0).toNat, .int .u8 (o 1).toNat, .int .u8 (o 2).toNat, .int .u8 (o 3).toNat]
abbrev ar16 (o : Nat → UInt8) : Array Value := #[.int .u8 (o 0).toNat, .int .u8 (o 1).toNat, .int .u8 (o 2).toNat, .int .u8 (o 3).toNat, .int .u8 (o 4).toNat, .int .u8 (o 5).toNat, .int .u8 (o 6).toNat, .int .u8 (o 7).toNat,
  .int .u8 (o 8).toNat, .int .u8 (o 9).toNat, .int .u8 (o 10).toNat, .int .u8 (o 11).toNat, .int .u8 (o 12).toNat, .int .u8 (o 13).toNat, .int .u8 (o 14).toNat, .int .u8 (o 15).toNat]

theorem or_join (x y : Int) (hx₀ : 0 ≤ x) (hx : x % 4294967296 = 0) (hx₁ : x < 18446744073709551616) (hy₀ : 0 ≤ y) (hy : y < 4294967296) : bits .or .u64 x y = x + y :=
  bits_join .u64 64 (by decide) (fun n h0 h1 => wraps_u64 n h0 h1) 32 x y hx₀ hx hx₁ hy₀ hy (by omega)

theorem or_join24 (x y : Int) (hx₀ : 0 ≤ x) (hx : x % 16777216 = 0) (hx₁ : x < 18446744073709551616) (hy₀ : 0 ≤ y) (hy : y < 16777216) : bits .or .u64 x y = x + y :=
  bits_join .u64 64 (by decide) (fun n h0 h1 => wraps_u64 n h0 h1) 24 x y hx₀ hx hx₁ hy₀ hy (by omega)
theorem or_join16 (x y : Int) (hx₀ : 0 ≤ x) (hx : x % 65536 = 0) (hx₁ : x < 18446744073709551616) (hy₀ : 0 ≤ y) (hy : y < 65536) : bits .or .u64 x y = x + y :=
  bits_join .u64 64 (by decide) (fun n h0 h1 => wraps_u64 n h0 h1) 16 x y hx₀ hx hx₁ hy₀ hy (by omega)
theorem or_join8 (x y : Int) (hx₀ : 0 ≤ x) (hx : x % 256 = 0) (hx₁ : x < 18446744073709551616) (hy₀ : 0 ≤ y) (hy : y < 256) : bits .or .u64 x y = x + y :=
  bits_join .u64 64 (by decide) (fun n h0 h1 => wraps_u64 n h0 h1) 8 x y hx₀ hx hx₁ hy₀ hy (by omega)

/-- AddrFrom4. -/
def lo4 (o : Nat → UInt8) : Nat := 281470681743360 + (o 0).toNat * 16777216 + (o 1).toNat * 65536 + (o 2).toNat * 256 + (o 3).toNat

set_option maxRecDepth 100000 in
set_option maxHeartbeats 1000000 in
theorem from4_any (o : Nat → UInt8) (p4 p6 : Addr) (w : World) (hz : Zs w p4 p6) :
    Calls Tryf.prog 35 #[.agg (ar4 o)] w fun e w' => e = .returned (AV 0 (lo4 o) (some p4)) ∧ Below w.heap.size w w' := by
  have hc := hz.c4
  have h2 : 2 < w.heap.size := World.block_lt_of_cell? w _ hc
  obtain ⟨x0, e0⟩ : ∃ x : Int, x = ((o 0).toNat : Int) := ⟨_, rfl⟩
  obtain ⟨x1, e1⟩ : ∃ x : Int, x = ((o 1).toNat : Int) := ⟨_, rfl⟩
  obtain ⟨x2, e2⟩ : ∃ x : Int, x = ((o 2).toNat : Int) := ⟨_, rfl⟩
  obtain ⟨x3, e3⟩ : ∃ x : Int, x = ((o 3).toNat : Int) := ⟨_, rfl⟩
  have b0 := (o 0).toNat_lt
  have b1 := (o 1).toNat_lt
  have b2 := (o 2).toNat_lt
  have b3 := (o 3).toNat_lt
  have E : Hid ((0 ≤ x0 ∧ x0 < 256) ∧ (0 ≤ x1 ∧ x1 < 256) ∧ (0 ≤ x2 ∧ x2 < 256) ∧ (0 ≤ x3 ∧ x3 < 256)) := ⟨by omega, by omega, by omega, by omega⟩
  have EV : ((lo4 o : Nat) : Int) = 281470681743360 + x0 * 16777216 + x1 * 65536 + x2 * 256 + x3 := by unfold lo4; omega
  rw [show ar4 o = #[.int .u8 x0, .int .u8 x1, .int .u8 x2, .int .u8 x3] by rw [e0, e1, e2, e3]]
  have HV : Hid (Value.int .u64 (bits .or .u64 (bits .or .u64 (bits .or .u64 (bits .or .u64 281470681743360 (IntKind.u64.wrap (IntKind.u64.wrap x0 * 16777216))) (IntKind.u64.wrap (IntKind.u64.wrap x1 * 65536))) (IntKind.u64.wrap (IntKind.u64.wrap x2 * 256))) (IntKind.u64.wrap x3)) = Value.int .u64 ((lo4 o : Nat) : Int)) := by
    obtain ⟨⟨a0, a1⟩, ⟨a2, a3⟩, ⟨a4, a5⟩, ⟨a6, a7⟩⟩ := E.out
    rw [Hid, EV, u64_wrap_id x0 a0 (by omega), u64_wrap_id x1 a2 (by omega), u64_wrap_id x2 a4 (by omega), u64_wrap_id x3 a6 (by omega), u64_wrap_id (x0 * 16777216) (by omega) (by omega), u64_wrap_id (x1 * 65536) (by omega) (by omega), u64_wrap_id (x2 * 256) (by omega) (by omega),
      or_join 281470681743360 _ (by omega) (by omega) (by omega) (by omega) (by omega), or_join24 _ (x1 * 65536) (by omega) (by omega) (by omega) (by omega) (by omega), or_join16 _ (x2 * 256) (by omega) (by omega) (by omega) (by omega) (by omega), or_join8 _ x3 (by omega) (by omega) (by omega) (by omega) (by omega)]
  clear e0 e1 e2 e3 b0 b1 b2 b3 EV hz
  go_enter Tryf.func35, Tryf.ntmps35
  go_wp2
  refine bodyPost_ret (v := AV 0 (lo4 o) (some p4)) (by unfold AV; rw [← HV.out]; simp [results, Tryf.results35, go_sem]) rfl ?_
  exact ⟨rfl, ((Below.refl _ _).alloc (Nat.le_refl _) _).alloc (by simp) _⟩

end Go.Proofs.Qxb6003713aFmt
