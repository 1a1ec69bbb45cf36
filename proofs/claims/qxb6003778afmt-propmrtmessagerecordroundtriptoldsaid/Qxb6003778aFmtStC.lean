import Derived.Test.Qxb6003778aFmtStB
namespace Go.Proofs.Qxb6003778aFmt
open Go.RowKit
set_option linter.unusedVariables false
set_option linter.unusedSimpArgs false

theorem Ext.ofBelow {w w' : World} (h : Below w.heap.size w w') (v : Value) : Ext w w' v v := ⟨⟨h.os, h.tape, h.output, h.size, fun k hk _ => h.block k hk⟩, .inl rfl⟩
theorem OB.ofBelow {e : TypeId} {B : Nat} {w w' : World} {v : Value} {l : List UInt8} (h : OB e B w v l) (hb : Below w.heap.size w w') : OB e B w' v l := h.keptX (Kept.ofAll hb (fun _ => False)) (fun _ _ q => q)
/-- The box, behind what grew. -/
theorem Ext.box {w W : World} {v v' : Value} {T : TypeId} {xs : Array Value} (h : Ext (w.alloc (.cells xs T)) W v v') (hv : v.ownBlock ≠ some w.heap.size) : Blk W w.heap.size T xs := (h.block (by simp) hv).trans (Blk.new w T xs)

set_option maxRecDepth 100000 in
set_option maxHeartbeats 4000000 in
theorem to4_any (hi lo : Nat) (z : Option Addr) (B : Nat) (v : Value) (l : List UInt8) (w : World) (hO : OB 5 B w v l) (hB : B ≤ w.heap.size) (hlen : l.length ≤ 1000) :
    Calls Tryf.prog 31 #[AV hi lo z, v] w fun e w' => ∃ v' m, e = .returned v' ∧ OB 5 B w' v' (l ++ m) ∧ m.length ≤ 19 ∧ Ext w w' v v' := by
  obtain ⟨i0, hi', hz0, hz1, hz2⟩ := info_parts Tryf.info5
  have HV : Hid (v.ownBlock ≠ some w.heap.size) := fun q => by have := (hO.lt _ q).2; omega
  have HE0 : Hid (Ext (w.alloc (.cells #[.int .u64 hi, .int .u64 lo, .pointer z] 32)) (w.alloc (.cells #[.int .u64 hi, .int .u64 lo, .pointer z] 32)) v v) := Ext.refl _ _
  have HO0 : Hid (OB 5 B (w.alloc (.cells #[.int .u64 hi, .int .u64 lo, .pointer z] 32)) v l) := hO.alloc _
  have HB : Hid (B ≤ (w.alloc (.cells #[.int .u64 hi, .int .u64 lo, .pointer z] 32)).heap.size) := by rw [Hid]; simp; omega
  unfold AV
  clear hO hB
  go_enter Tryf.func31, Tryf.ntmps31
  go_wp2_with (first
    | (go_at_call 35; have _tok := hE10; go_must (refine (dec_any x10 B _ (l ++ m10) _ hx10 hO10 (Nat.le_trans HB.out hE10.size) (by simp; omega)).mono ?_); rintro e w11 ⟨v11, mx, rfl, ho, hml, hx⟩; have hE11 := hE10.trans hx; obtain ⟨m11, hO11, hm11⟩ : ∃ m : List UInt8, OB 5 B w11 v11 (l ++ m) ∧ m.length ≤ 19 := ⟨_, by rw [← List.append_assoc]; exact ho, by simp; omega⟩; clear ho hml hx)
    | (go_at_call 36; have _tok := hE9; go_must (refine (v4_any hi lo z 3 _ (by omega)).mono ?_); rintro e w10 ⟨⟨x10, rfl, hx10⟩, hb⟩; have hE10 := hE9.trans (Ext.ofBelow hb v9); obtain ⟨m10, hO10, hm10⟩ : ∃ m : List UInt8, OB 5 B w10 v9 (l ++ m) ∧ m.length ≤ 15 := ⟨m9, hO9.ofBelow hb, hm9⟩; clear hb)
    | (at_builtin; have _tok := hE8; go_must (refine wpList_append_any _ rfl (.tmp 23) (.tmp 24) 24 24 rfl B 5 i0 (.int .u8 0) 1 1 Tryf.underlying24 hi' hz0 hz1 hz2 rfl _ (l ++ m8).length (bc (l ++ m8)) rfl (hO8.alloc _) _ 1 (bc [_]) rfl (Src.lit w8 Tryf.underlying24 [46] _ 1 1 5 rfl rfl) (by unfold maxLen; simp; omega) (by simp; omega) (by simp; exact Nat.le_succ_of_le (Nat.le_trans HB.out hE8.size)) ?_); intro v9 w9 ho hx _ _; have hE9 := hE8.trans hx.of_alloc; obtain ⟨m9, hO9, hm9⟩ : ∃ m : List UInt8, OB 5 B w9 v9 (l ++ m) ∧ m.length ≤ 15 := ⟨_, by rw [← List.append_assoc]; exact OB.app ho rfl, by simp; omega⟩; have b90 : w9.cell? ⟨w.heap.size, 0, none⟩ = some (.int .u64 hi) := (hE9.box HV.out).cell 0; have b91 : w9.cell? ⟨w.heap.size, 1, none⟩ = some (.int .u64 lo) := (hE9.box HV.out).cell 1; have b92 : w9.cell? ⟨w.heap.size, 2, none⟩ = some (.pointer z) := (hE9.box HV.out).cell 2; clear ho hx)
    | (go_at_call 35; have _tok := hE7; go_must (refine (dec_any x7 B _ (l ++ m7) _ hx7 hO7 (Nat.le_trans HB.out hE7.size) (by simp; omega)).mono ?_); rintro e w8 ⟨v8, mx, rfl, ho, hml, hx⟩; have hE8 := hE7.trans hx; obtain ⟨m8, hO8, hm8⟩ : ∃ m : List UInt8, OB 5 B w8 v8 (l ++ m) ∧ m.length ≤ 14 := ⟨_, by rw [← List.append_assoc]; exact ho, by simp; omega⟩; clear ho hml hx)
    | (go_at_call 36; have _tok := hE6; go_must (refine (v4_any hi lo z 2 _ (by omega)).mono ?_); rintro e w7 ⟨⟨x7, rfl, hx7⟩, hb⟩; have hE7 := hE6.trans (Ext.ofBelow hb v6); obtain ⟨m7, hO7, hm7⟩ : ∃ m : List UInt8, OB 5 B w7 v6 (l ++ m) ∧ m.length ≤ 10 := ⟨m6, hO6.ofBelow hb, hm6⟩; clear hb)
    | (at_builtin; have _tok := hE5; go_must (refine wpList_append_any _ rfl (.tmp 16) (.tmp 17) 24 24 rfl B 5 i0 (.int .u8 0) 1 1 Tryf.underlying24 hi' hz0 hz1 hz2 rfl _ (l ++ m5).length (bc (l ++ m5)) rfl (hO5.alloc _) _ 1 (bc [_]) rfl (Src.lit w5 Tryf.underlying24 [46] _ 1 1 5 rfl rfl) (by unfold maxLen; simp; omega) (by simp; omega) (by simp; exact Nat.le_succ_of_le (Nat.le_trans HB.out hE5.size)) ?_); intro v6 w6 ho hx _ _; have hE6 := hE5.trans hx.of_alloc; obtain ⟨m6, hO6, hm6⟩ : ∃ m : List UInt8, OB 5 B w6 v6 (l ++ m) ∧ m.length ≤ 10 := ⟨_, by rw [← List.append_assoc]; exact OB.app ho rfl, by simp; omega⟩; have b60 : w6.cell? ⟨w.heap.size, 0, none⟩ = some (.int .u64 hi) := (hE6.box HV.out).cell 0; have b61 : w6.cell? ⟨w.heap.size, 1, none⟩ = some (.int .u64 lo) := (hE6.box HV.out).cell 1; have b62 : w6.cell? ⟨w.heap.size, 2, none⟩ = some (.pointer z) := (hE6.box HV.out).cell 2; clear ho hx)
    | (go_at_call 35; have _tok := hE4; go_must (refine (dec_any x4 B _ (l ++ m4) _ hx4 hO4 (Nat.le_trans HB.out hE4.size) (by simp; omega)).mono ?_); rintro e w5 ⟨v5, mx, rfl, ho, hml, hx⟩; have hE5 := hE4.trans hx; obtain ⟨m5, hO5, hm5⟩ : ∃ m : List UInt8, OB 5 B w5 v5 (l ++ m) ∧ m.length ≤ 9 := ⟨_, by rw [← List.append_assoc]; exact ho, by simp; omega⟩; clear ho hml hx)
    | (go_at_call 36; have _tok := hE3; go_must (refine (v4_any hi lo z 1 _ (by omega)).mono ?_); rintro e w4 ⟨⟨x4, rfl, hx4⟩, hb⟩; have hE4 := hE3.trans (Ext.ofBelow hb v3); obtain ⟨m4, hO4, hm4⟩ : ∃ m : List UInt8, OB 5 B w4 v3 (l ++ m) ∧ m.length ≤ 5 := ⟨m3, hO3.ofBelow hb, hm3⟩; clear hb)
    | (at_builtin; have _tok := hE2; go_must (refine wpList_append_any _ rfl (.tmp 9) (.tmp 10) 24 24 rfl B 5 i0 (.int .u8 0) 1 1 Tryf.underlying24 hi' hz0 hz1 hz2 rfl _ (l ++ m2).length (bc (l ++ m2)) rfl (hO2.alloc _) _ 1 (bc [_]) rfl (Src.lit w2 Tryf.underlying24 [46] _ 1 1 5 rfl rfl) (by unfold maxLen; simp; omega) (by simp; omega) (by simp; exact Nat.le_succ_of_le (Nat.le_trans HB.out hE2.size)) ?_); intro v3 w3 ho hx _ _; have hE3 := hE2.trans hx.of_alloc; obtain ⟨m3, hO3, hm3⟩ : ∃ m : List UInt8, OB 5 B w3 v3 (l ++ m) ∧ m.length ≤ 5 := ⟨_, by rw [← List.append_assoc]; exact OB.app ho rfl, by simp; omega⟩; have b30 : w3.cell? ⟨w.heap.size, 0, none⟩ = some (.int .u64 hi) := (hE3.box HV.out).cell 0; have b31 : w3.cell? ⟨w.heap.size, 1, none⟩ = some (.int .u64 lo) := (hE3.box HV.out).cell 1; have b32 : w3.cell? ⟨w.heap.size, 2, none⟩ = some (.pointer z) := (hE3.box HV.out).cell 2; clear ho hx)
    | (go_at_call 35; have _tok := hE1; go_must (refine (dec_any x1 B _ (l ++ m1) _ hx1 hO1 (Nat.le_trans HB.out hE1.size) (by simp; omega)).mono ?_); rintro e w2 ⟨v2, mx, rfl, ho, hml, hx⟩; have hE2 := hE1.trans hx; obtain ⟨m2, hO2, hm2⟩ : ∃ m : List UInt8, OB 5 B w2 v2 (l ++ m) ∧ m.length ≤ 4 := ⟨_, by rw [← List.append_assoc]; exact ho, by simp; omega⟩; clear ho hml hx)
    | (go_at_call 36; go_must (refine (v4_any hi lo z 0 _ (by omega)).mono ?_); rintro e w1 ⟨⟨x1, rfl, hx1⟩, hb⟩; have hE1 := HE0.out.trans (Ext.ofBelow hb v); obtain ⟨m1, hO1, hm1⟩ : ∃ m : List UInt8, OB 5 B w1 v (l ++ m) ∧ m.length ≤ 0 := ⟨[], by rw [List.append_nil]; exact HO0.out.ofBelow hb, by simp⟩; clear hb)
    | fail)
  go_ret
  first | exact ⟨_, _, rfl, hO11, by omega, hE11.of_alloc⟩ | exact ⟨_, rfl, _, hO11, by omega, hE11.of_alloc⟩

end Go.Proofs.Qxb6003778aFmt
