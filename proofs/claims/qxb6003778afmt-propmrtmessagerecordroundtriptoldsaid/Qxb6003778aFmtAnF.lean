import Derived.Test.Qxb6003778aFmtAnE
import Derived.Laws.Cover3
namespace Go.Proofs.Qxb6003778aFmt
open Go.RowKit
set_option linter.unusedVariables false
set_option linter.unusedSimpArgs false

theorem sameBytes_any (a1 a2 : Option Addr) (c1 c2 : Nat) (l : List UInt8) (w : World) (hlen : l.length ≤ 2000000000) (h1 : View w a1 (bc l)) (h2 : View w a2 (bc l)) :
    Calls Tryf.prog 8 #[.slice a1 l.length c1, .slice a2 l.length c2] w fun e w' => e = .returned (.bool true) ∧ ∃ nq, w' = w.drewN nq := by
  have H1 : Hid (View w a1 (bc l)) := h1
  have H2 : Hid (View w a2 (bc l)) := h2
  clear h1 h2
  generalize hn : l.length = n at *
  have HN : Hid (l.length = n) := hn
  clear hn
  go_enter Tryf.func8, Tryf.ntmps8
  go_wp2
  go_loopw [5] (fun i wr => ∃ (k nq : Nat), k ≤ n ∧ i = .int .i64 k ∧ wr = w.drewN nq) (fun i _ => n - (intOf i).toNat)
  case atStart => exact ⟨0, 0, Nat.zero_le _, rfl, rfl⟩
  case round =>
    obtain ⟨k, nq, hk, rfl, rfl⟩ := hrel
    by_cases hlt : k < n
    · obtain ⟨b1, o1, q1, _, hc1⟩ := H1.out.at (j := k) (by rw [bc_length, HN.out]; omega)
      cases q1
      obtain ⟨b2, o2, q2, _, hc2⟩ := H2.out.at (j := k) (by rw [bc_length, HN.out]; omega)
      cases q2
      obtain ⟨z, hz⟩ : ∃ z : Int, (bc l)[k]? = some (.int .u8 z) := ⟨_, bc_get l k (by rw [HN.out]; omega)⟩
      have d1 := hc1 k _ hz
      have d2 := hc2 k _ hz
      have i1 : (0 : Int) ≤ (k : Int) := by omega
      have i2 : (k : Int) < (n : Int) := by omega
      clear hc1 hc2 hz
      go_wp2_with fail
      go_quiet (fail)
      go_wp2
      go_roundw
      case rel => exact ⟨k + 1, _, by omega, by go_num, rfl⟩
      case measure => simp [intOf]; omega
    · go_wp2
      go_ret
      exact ⟨rfl, nq, rfl⟩

/-- A number's four octets, appended. -/
theorem app32_any (x : Nat) (B : Nat) (v : Value) (l : List UInt8) (w : World) (hx : x < 4294967296) (hO : OB 5 B w v l) (hB : B ≤ w.heap.size) (hlen : l.length ≤ 2000000000) :
    Calls Tryf.prog 11 #[.agg #[], v, .int .u32 x] w fun e w' => ∃ v', e = .returned v' ∧ OB 5 B w' v' (l ++ b4 x) ∧ Ext w w' v v' ∧ OB 5 B w' v l := by
  obtain ⟨i0, hi, hz0, hz1, hz2⟩ := info_parts Tryf.info5
  have HB : Hid (bc (b4 x) = [Value.int .u8 ((x : Int) / 16777216 % 256), Value.int .u8 ((x : Int) / 65536 % 256), Value.int .u8 ((x : Int) / 256 % 256), Value.int .u8 ((x : Int) % 256)]) := by
    show [Value.int .u8 _, Value.int .u8 _, Value.int .u8 _, Value.int .u8 _] = _
    rw [by8_nat _ (by omega) (by omega), by8_nat _ (by omega) (by omega), by8_nat _ (by omega) (by omega), by8_nat _ (by omega) (by omega)]
    rfl
  clear hx
  go_enter Tryf.func11, Tryf.ntmps11
  go_wp2_with (at_builtin; go_must (refine wpList_append_any _ rfl (.tmp 7) (.tmp 19) 24 24 rfl B 5 i0 (.int .u8 0) 1 1 Tryf.underlying24 hi hz0 hz1 hz2 rfl _ l.length (bc l) rfl ((hO.alloc _).alloc _) _ 4 (bc (b4 x)) rfl (Src.litH _ Tryf.underlying24 (b4 x) _ 4 4 5 (w.heap.size + 1) (by simp) (by rw [HB.out]) rfl) (by unfold maxLen; omega) (by omega) (by simp; omega) ?_); intro v3 w3 hown3 hext3 _ hst3)
  go_ret
  exact ⟨_, rfl, OB.app hown3 rfl, hext3.of_alloc.of_alloc, hst3⟩

/-- Four octets as a number. -/
def be4 (b : Nat → UInt8) : Nat := (b 3).toNat + (b 2).toNat * 256 + (b 1).toNat * 65536 + (b 0).toNat * 16777216

set_option maxRecDepth 100000 in
set_option maxHeartbeats 2000000 in
theorem uint32_any (b : Nat → UInt8) (g o n c : Nat) (w : World) (hn : 4 ≤ n)
    (c0 : w.cell? ⟨g, o, none⟩ = some (.int .u8 (b 0).toNat)) (c1 : w.cell? ⟨g, o + 1, none⟩ = some (.int .u8 (b 1).toNat)) (c2 : w.cell? ⟨g, o + 2, none⟩ = some (.int .u8 (b 2).toNat)) (c3 : w.cell? ⟨g, o + 3, none⟩ = some (.int .u8 (b 3).toNat)) :
    Calls Tryf.prog 27 #[.agg #[], .slice (some ⟨g, o, none⟩) n c] w fun e w' => e = .returned (.int .u32 (be4 b : Nat)) ∧ Below w.heap.size w w' := by
  have h0 : (b 0).toNat < 256 := (b 0).toNat_lt
  have h1 : (b 1).toNat < 256 := (b 1).toNat_lt
  have h2 : (b 2).toNat < 256 := (b 2).toNat_lt
  have h3 : (b 3).toNat < 256 := (b 3).toNat_lt
  have hv : ((be4 b : Nat) : Int) = ((b 3).toNat : Int) + ((b 2).toNat : Int) * 256 + ((b 1).toNat : Int) * 65536 + ((b 0).toNat : Int) * 16777216 := by
    unfold be4; omega
  have al : Below w.heap.size w (w.alloc (.cells #[] 54)) := (Below.refl _ _).alloc (Nat.le_refl _) _
  have d0 := cell_later al c0
  have d1 := cell_later al c1
  have d2 := cell_later al c2
  have d3 := cell_later al c3
  have q0 : 0 < n := by omega
  have q1 : (1 : Int) < (n : Int) := by omega
  have q2 : (2 : Int) < (n : Int) := by omega
  have q3 : (3 : Int) < (n : Int) := by omega
  clear al
  go_enter Tryf.func27, Tryf.ntmps27
  go_wp2
  go_quiet (fail)
  go_wp2
  go_ret
  refine ⟨?_, below_drewN ((Below.refl _ _).alloc (Nat.le_refl _) _) _⟩
  simp (disch := omega) only [u32_wrap_id, u32_or8, u32_or16, u32_or24]
  rw [hv]
  rfl

theorem boxed1 {w w1 : World} {T : TypeId} {xs : Array Value} (h : Below (w.alloc (.cells xs T)).heap.size (w.alloc (.cells xs T)) w1) : Blk w1 w.heap.size T xs ∧ Kept w w1 (fun i => i = w.heap.size) := by
  refine ⟨?_, ((Kept.refl _ _).alloc _).trans ((Kept.ofAll h _))⟩
  exact (h.block _ (by simp)).trans (Blk.new w T xs)

set_option maxRecDepth 100000 in
set_option maxHeartbeats 1000000 in
theorem fromSlice4 (o : Nat → UInt8) (g off c : Nat) (p4 p6 : Addr) (w : World) (hz : Zs w p4 p6) (hc : ∀ i, i < 4 → w.cell? ⟨g, off + i, none⟩ = some (.int .u8 (o i).toNat)) :
    Calls Tryf.prog 29 #[.slice (some ⟨g, off, none⟩) 4 c] w fun e w' => e = .returned (.tuple #[AV 0 (lo4 o) (some p4), .bool true]) ∧ Below w.heap.size w w' := by
  have HZ : Hid (∀ w', Below w.heap.size w w' → Zs w' p4 p6) := fun w' hb => hz.later hb
  have al : ∀ b, Below w.heap.size w (w.alloc b) := fun b => (Below.refl _ _).alloc (Nat.le_refl _) _
  have d0 : ∀ b, (w.alloc b).cell? ⟨g, off, none⟩ = some (.int .u8 (o 0).toNat) := fun b => cell_later (al b) (hc 0 (by omega))
  have d1 : ∀ b, (w.alloc b).cell? ⟨g, off + 1, none⟩ = some (.int .u8 (o 1).toNat) := fun b => cell_later (al b) (hc 1 (by omega))
  have d2 : ∀ b, (w.alloc b).cell? ⟨g, off + 2, none⟩ = some (.int .u8 (o 2).toNat) := fun b => cell_later (al b) (hc 2 (by omega))
  have d3 : ∀ b, (w.alloc b).cell? ⟨g, off + 3, none⟩ = some (.int .u8 (o 3).toNat) := fun b => cell_later (al b) (hc 3 (by omega))
  have ha : ∀ W : World, (Instr.arrayAt 50 (.slice (some ⟨g, off, none⟩) 4 c)).run Tryf.prog W = .ok (.pointer (some ⟨g, off, none⟩)) W := fun W => run_arrayAt W 50 5 4 _ _ _ Tryf.underlying50 (Nat.le_refl _)
  clear hz hc al
  go_enter Tryf.func29, Tryf.ntmps29
  go_wp2_with (first
    | (go_at_call 9; go_must (refine (from4_any o p4 p6 _ (by exact HZ.out _ ((Below.refl _ _).alloc (Nat.le_refl _) _))).mono ?_); rintro e w1 ⟨rfl, hb1'⟩; unfold AV; obtain ⟨hB, hK⟩ := boxed1 hb1'; have k0 : w1.cell? ⟨w.heap.size, 0, none⟩ = some (.int .u64 0) := hB.cell 0; have k1 : w1.cell? ⟨w.heap.size, 1, none⟩ = some (.int .u64 0) := hB.cell 1; have k2 : w1.cell? ⟨w.heap.size, 2, none⟩ = some (.pointer none) := hB.cell 2; have f := hB.frozen; have HK1 : Hid (Kept w w1 (fun i => i = w.heap.size)) := hK; have HB1 : Hid (Blk w1 w.heap.size 32 #[.int .u64 0, .int .u64 0, .pointer none]) := hB; clear hb1' hB hK)
    | fail)
  refine bodyPost_ret (v := .tuple #[AV 0 (lo4 o) (some p4), .bool true]) (by unfold AV; simp [results, Tryf.results29, go_sem, ((((HB1.out.set 0 _).set 1 _).set 2 _)).cell]) rfl ?_
  exact ⟨rfl, (((HK1.out.set (.inl rfl) _).set (.inl rfl) _).set (.inl rfl) _).below (Nat.le_refl _) (fun i h => by have : i = w.heap.size := h; omega)⟩

set_option maxRecDepth 100000 in
set_option maxHeartbeats 1000000 in
theorem fromSlice16 (o : Nat → UInt8) (g off c : Nat) (p4 p6 : Addr) (w : World) (hz : Zs w p4 p6) (hc : ∀ i, i < 16 → w.cell? ⟨g, off + i, none⟩ = some (.int .u8 (o i).toNat)) :
    Calls Tryf.prog 29 #[.slice (some ⟨g, off, none⟩) 16 c] w fun e w' => e = .returned (.tuple #[AV (be8 o) (be8 fun i => o (8 + i)) (some p6), .bool true]) ∧ Below w.heap.size w w' := by
  have HZ : Hid (∀ w', Below w.heap.size w w' → Zs w' p4 p6) := fun w' hb => hz.later hb
  have al : ∀ b, Below w.heap.size w (w.alloc b) := fun b => (Below.refl _ _).alloc (Nat.le_refl _) _
  have d0 : ∀ b, (w.alloc b).cell? ⟨g, off, none⟩ = some (.int .u8 (o 0).toNat) := fun b => cell_later (al b) (hc 0 (by omega))
  have d1 : ∀ b, (w.alloc b).cell? ⟨g, off + 1, none⟩ = some (.int .u8 (o 1).toNat) := fun b => cell_later (al b) (hc 1 (by omega))
  have d2 : ∀ b, (w.alloc b).cell? ⟨g, off + 2, none⟩ = some (.int .u8 (o 2).toNat) := fun b => cell_later (al b) (hc 2 (by omega))
  have d3 : ∀ b, (w.alloc b).cell? ⟨g, off + 3, none⟩ = some (.int .u8 (o 3).toNat) := fun b => cell_later (al b) (hc 3 (by omega))
  have d4 : ∀ b, (w.alloc b).cell? ⟨g, off + 4, none⟩ = some (.int .u8 (o 4).toNat) := fun b => cell_later (al b) (hc 4 (by omega))
  have d5 : ∀ b, (w.alloc b).cell? ⟨g, off + 5, none⟩ = some (.int .u8 (o 5).toNat) := fun b => cell_later (al b) (hc 5 (by omega))
  have d6 : ∀ b, (w.alloc b).cell? ⟨g, off + 6, none⟩ = some (.int .u8 (o 6).toNat) := fun b => cell_later (al b) (hc 6 (by omega))
  have d7 : ∀ b, (w.alloc b).cell? ⟨g, off + 7, none⟩ = some (.int .u8 (o 7).toNat) := fun b => cell_later (al b) (hc 7 (by omega))
  have d8 : ∀ b, (w.alloc b).cell? ⟨g, off + 8, none⟩ = some (.int .u8 (o 8).toNat) := fun b => cell_later (al b) (hc 8 (by omega))
  have d9 : ∀ b, (w.alloc b).cell? ⟨g, off + 9, none⟩ = some (.int .u8 (o 9).toNat) := fun b => cell_later (al b) (hc 9 (by omega))
  have d10 : ∀ b, (w.alloc b).cell? ⟨g, off + 10, none⟩ = some (.int .u8 (o 10).toNat) := fun b => cell_later (al b) (hc 10 (by omega))
  have d11 : ∀ b, (w.alloc b).cell? ⟨g, off + 11, none⟩ = some (.int .u8 (o 11).toNat) := fun b => cell_later (al b) (hc 11 (by omega))
  have d12 : ∀ b, (w.alloc b).cell? ⟨g, off + 12, none⟩ = some (.int .u8 (o 12).toNat) := fun b => cell_later (al b) (hc 12 (by omega))
  have d13 : ∀ b, (w.alloc b).cell? ⟨g, off + 13, none⟩ = some (.int .u8 (o 13).toNat) := fun b => cell_later (al b) (hc 13 (by omega))
  have d14 : ∀ b, (w.alloc b).cell? ⟨g, off + 14, none⟩ = some (.int .u8 (o 14).toNat) := fun b => cell_later (al b) (hc 14 (by omega))
  have d15 : ∀ b, (w.alloc b).cell? ⟨g, off + 15, none⟩ = some (.int .u8 (o 15).toNat) := fun b => cell_later (al b) (hc 15 (by omega))
  have ha : ∀ W : World, (Instr.arrayAt 23 (.slice (some ⟨g, off, none⟩) 16 c)).run Tryf.prog W = .ok (.pointer (some ⟨g, off, none⟩)) W := fun W => run_arrayAt W 23 5 16 _ _ _ Tryf.underlying23 (Nat.le_refl _)
  clear hz hc al
  go_enter Tryf.func29, Tryf.ntmps29
  go_wp2_with (first
    | (go_at_call 10; go_must (refine (from16_any _ o p4 p6 _ (by exact HZ.out _ ((Below.refl _ _).alloc (Nat.le_refl _) _)) (by exact oct16 o)).mono ?_); rintro e w1 ⟨rfl, hb1'⟩; unfold AV; obtain ⟨hB, hK⟩ := boxed1 hb1'; have k0 : w1.cell? ⟨w.heap.size, 0, none⟩ = some (.int .u64 0) := hB.cell 0; have k1 : w1.cell? ⟨w.heap.size, 1, none⟩ = some (.int .u64 0) := hB.cell 1; have k2 : w1.cell? ⟨w.heap.size, 2, none⟩ = some (.pointer none) := hB.cell 2; have f := hB.frozen; have HK1 : Hid (Kept w w1 (fun i => i = w.heap.size)) := hK; have HB1 : Hid (Blk w1 w.heap.size 32 #[.int .u64 0, .int .u64 0, .pointer none]) := hB; clear hb1' hB hK)
    | fail)
  refine bodyPost_ret (v := .tuple #[AV (be8 o) (be8 fun i => o (8 + i)) (some p6), .bool true]) (by unfold AV; simp [results, Tryf.results29, go_sem, ((((HB1.out.set 0 _).set 1 _).set 2 _)).cell]) rfl ?_
  exact ⟨rfl, (((HK1.out.set (.inl rfl) _).set (.inl rfl) _).set (.inl rfl) _).below (Nat.le_refl _) (fun i h => by have : i = w.heap.size := h; omega)⟩

end Go.Proofs.Qxb6003778aFmt
