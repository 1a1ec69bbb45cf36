import Derived.Test.Qxb6003778aFmtStD
namespace Go.Proofs.Qxb6003778aFmt
open Go.RowKit
set_option linter.unusedVariables false
set_option linter.unusedSimpArgs false

/-- What a row under way has come to. -/
structure Lp (w : World) (bx : Array Value) (B : Nat) (v0 : Value) (l : List UInt8) (wr : World) (v : Value) (K : Nat) : Prop where
  ext : Ext (w.alloc (.cells bx 32)) wr v0 v
  row : ∃ m : List UInt8, OB 5 B wr v (l ++ m) ∧ m.length ≤ K
theorem Lp.below {w : World} {bx : Array Value} {B : Nat} {v0 : Value} {l : List UInt8} {wr w' : World} {v : Value} {K : Nat} (h : Lp w bx B v0 l wr v K) (hb : Below wr.heap.size wr w') : Lp w bx B v0 l w' v K := by
  obtain ⟨m, ho, hm⟩ := h.row
  exact ⟨h.ext.trans (Ext.ofBelow hb v), m, ho.ofBelow hb, hm⟩
theorem Lp.grow {w : World} {bx : Array Value} {B : Nat} {v0 : Value} {l : List UInt8} {wr w' : World} {v v' : Value} {K j : Nat} {m n : List UInt8} (h : Lp w bx B v0 l wr v K) (hx : Ext wr w' v v') (ho : OB 5 B w' v' (l ++ m ++ n)) (hm : m.length ≤ K) (hn : n.length ≤ j) : Lp w bx B v0 l w' v' (K + j) :=
  ⟨h.ext.trans hx, m ++ n, by rw [← List.append_assoc]; exact ho, by simp; omega⟩

theorem Lp.old {w w0 : World} {bx : Array Value} {B : Nat} {v0 : Value} {l : List UInt8} {wr : World} {v : Value} {K : Nat} (h : Lp w bx B v0 l wr v K) (hb0 : Below w0.heap.size w0 w) (hv : ∀ k, v0.ownBlock = some k → w0.heap.size ≤ k) : Below w0.heap.size w0 wr :=
  h.ext.below (hb0.alloc hb0.size _) (by have := hb0.size; simp; omega) hv
theorem Lp.box {w : World} {bx : Array Value} {B : Nat} {v0 : Value} {l : List UInt8} {wr : World} {v : Value} {K : Nat} (h : Lp w bx B v0 l wr v K) (hv : v0.ownBlock ≠ some w.heap.size) : Blk wr w.heap.size 32 bx := h.ext.box hv
theorem Lp.start {w : World} (bx : Array Value) {B : Nat} {v0 : Value} {l : List UInt8} (hO : OB 5 B w v0 l) : Lp w bx B v0 l (w.alloc (.cells bx 32)) v0 0 := ⟨Ext.refl _ _, [], by rw [List.append_nil]; exact hO.alloc _, by simp⟩

set_option maxRecDepth 100000 in
set_option maxHeartbeats 4000000 in
theorem in46_any (hi lo : Nat) (p4 p6 : Addr) (B : Nat) (v : Value) (l : List UInt8) (w w0 : World) (hz : Zs w0 p4 p6) (hb0 : Below w0.heap.size w0 w) (hB0 : w0.heap.size ≤ B) (h0 : hi = 0) (h1 : lo / 4294967296 = 65535) (hO : OB 5 B w v l) (hB : B ≤ w.heap.size) (hlen : l.length ≤ 900) :
    Calls Tryf.prog 33 #[AV hi lo (some p6), v] w fun e w' => ∃ v' m, e = .returned v' ∧ OB 5 B w' v' (l ++ m) ∧ m.length ≤ 30 ∧ Ext w w' v v' := by
  obtain ⟨i0, hi', hz0, hz1, hz2⟩ := info_parts Tryf.info5
  have HV : Hid (v.ownBlock ≠ some w.heap.size) := fun q => by have := (hO.lt _ q).2; omega
  have HV0 : Hid (∀ k, v.ownBlock = some k → w0.heap.size ≤ k) := fun k q => Nat.le_trans hB0 (hO.lt _ q).1
  have HZ : Hid (∀ W, Below w0.heap.size w0 W → Zs W p4 p6) := fun W hb => hz.later hb
  have HL0 : Hid (Lp w #[.int .u64 hi, .int .u64 lo, .pointer (some p6)] B v l (w.alloc (.cells #[.int .u64 hi, .int .u64 lo, .pointer (some p6)] 32)) v 0) := Lp.start _ hO
  have HB : Hid (B ≤ (w.alloc (.cells #[.int .u64 hi, .int .u64 lo, .pointer (some p6)] 32)).heap.size) := by rw [Hid]; simp; omega
  have HO0 : Hid (OB 5 B (w.alloc (.cells #[.int .u64 hi, .int .u64 lo, .pointer (some p6)] 32)) v l) := hO.alloc _
  have Hb0 : Hid (Below w0.heap.size w0 w) := hb0
  have z3 := eqz_same
  have hun := unmap_any hi lo p4 p6
  have HU : Hid (∀ W, Zs W p4 p6 → Calls Tryf.prog 37 #[AV hi lo (some p6)] W fun e w' => e = .returned (AV hi lo (some p4)) ∧ Below W.heap.size W w') := fun W hzz => hun W hzz h0 h1
  clear hz hO hB hB0 hb0 hun h0 h1
  unfold AV at HU ⊢
  go_enter Tryf.func33, Tryf.ntmps33
  go_wp2_with (first
    | (go_at_call 31; go_must (refine (to4_any hi lo (some p4) B _ (l ++ m1) _ hO2 (Nat.le_trans HB.out HL2.out.ext.size) (by simp; omega)).mono ?_); rintro e w3 ⟨v3, m3, rfl, hO3, hm3, hx3⟩; have HL3 : Hid (Lp w #[.int .u64 hi, .int .u64 lo, .pointer (some p6)] B v l w3 v3 (7 + 19)) := HL2.out.grow hx3 hO3 hm1 hm3; have k2 : w3.cell? ⟨w.heap.size, 2, none⟩ = some (.pointer (some p6)) := (HL3.out.box HV.out).cell 2; have g6 : w3.cell? ⟨2, 0, none⟩ = some (.pointer (some p6)) := (HZ.out _ (HL3.out.old Hb0.out HV0.out)).c6; clear hx3 hO3)
    | (go_at_call 37; go_must (refine (HU.out _ (HZ.out _ (HL1.out.old Hb0.out HV0.out))).mono ?_); rintro e w2 ⟨rfl, hb2⟩; have HL2 : Hid (Lp w #[.int .u64 hi, .int .u64 lo, .pointer (some p6)] B v l w2 v1 7) := HL1.out.below hb2; have hO2 : OB 5 B w2 v1 (l ++ m1) := hO1.ofBelow hb2; clear hb2)
    | (at_builtin; go_must (refine wpList_append_any _ rfl (.tmp 5) (.const _) 24 9 rfl B 5 i0 (.int .u8 0) 1 1 Tryf.underlying24 hi' hz0 hz1 hz2 rfl _ l.length (bc l) rfl HO0.out _ 7 (bc [58, 58, 102, 102, 102, 102, 58]) rfl (Src.ofString _ Tryf.underlying9 _) (by unfold maxLen; omega) (by omega) HB.out ?_); intro v1 w1 ho hx _ _; obtain ⟨m1, hO1, hm1⟩ : ∃ m : List UInt8, OB 5 B w1 v1 (l ++ m) ∧ m.length ≤ 7 := ⟨_, OB.app ho rfl, by simp⟩; have HL1 : Hid (Lp w #[.int .u64 hi, .int .u64 lo, .pointer (some p6)] B v l w1 v1 7) := ⟨hx, m1, hO1, hm1⟩; have b0 : w1.cell? ⟨w.heap.size, 0, none⟩ = some (.int .u64 hi) := (HL1.out.box HV.out).cell 0; have b1 : w1.cell? ⟨w.heap.size, 1, none⟩ = some (.int .u64 lo) := (HL1.out.box HV.out).cell 1; have b2 : w1.cell? ⟨w.heap.size, 2, none⟩ = some (.pointer (some p6)) := (HL1.out.box HV.out).cell 2; clear ho hx)
    | fail)
  go_ret
  obtain ⟨m, ho, hm⟩ := HL3.out.row
  first | exact ⟨_, m, rfl, ho, by omega, HL3.out.ext.of_alloc⟩ | exact ⟨_, rfl, m, ho, by omega, HL3.out.ext.of_alloc⟩

end Go.Proofs.Qxb6003778aFmt
