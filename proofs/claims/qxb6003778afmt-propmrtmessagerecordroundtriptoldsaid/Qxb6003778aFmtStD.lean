import Derived.Test.Qxb6003778aFmtStC
import Derived.Test.Qxb6003778aFmtAnL
namespace Go.Proofs.Qxb6003778aFmt
open Go.RowKit
set_option linter.unusedVariables false
set_option linter.unusedSimpArgs false

theorem Hid.mk'' {p : Prop} (h : p) : Hid p := h
theorem below_drew {B : Nat} {w w' : World} (h : Below B w w') : Below B w w'.drew := ⟨h.os, h.tape, h.output, h.size, h.block⟩
theorem val_none (hi lo : Nat) (p4 p6 : Addr) (w : World) (hz : Zs w p4 p6) : Calls Tryf.prog 30 #[AV hi lo none] w fun e w' => e = .returned (.bool false) ∧ Below w.heap.size w w' := by
  have hc := hz.c0
  have h4 : 3 < w.heap.size := World.block_lt_of_cell? w _ hc
  have z2 := eqz_nil
  unfold AV
  go_enter Tryf.func30, Tryf.ntmps30
  go_wp2
  go_ret
  exact ⟨rfl, (Below.refl _ _).alloc (Nat.le_refl _) _⟩
theorem val_some (hi lo : Nat) (p : Addr) (p4 p6 : Addr) (w : World) (hz : Zs w p4 p6) : Calls Tryf.prog 30 #[AV hi lo (some p)] w fun e w' => e = .returned (.bool true) ∧ Below w.heap.size w w' := by
  have hc := hz.c0
  have h4 : 3 < w.heap.size := World.block_lt_of_cell? w _ hc
  have z1 := eqz_none
  unfold AV
  go_enter Tryf.func30, Tryf.ntmps30
  go_wp2
  go_ret
  exact ⟨rfl, (Below.refl _ _).alloc (Nat.le_refl _) _⟩

/-- Is4In6 of an IPv6 address. -/
theorem in6_any (hi lo : Nat) (p4 p6 : Addr) (w : World) (hz : Zs w p4 p6) : Calls Tryf.prog 32 #[AV hi lo (some p6)] w fun e w' => e = .returned (.bool (decide (hi = 0) && decide (lo / 4294967296 = 65535))) ∧ Below w.heap.size w w' := by
  have HZ : Hid (∀ W, Below w.heap.size w W → Zs W p4 p6) := fun W hb => hz.later hb
  clear hz
  have E : ∀ W : World, Below (w.alloc (.cells #[.int .u64 hi, .int .u64 lo, .pointer (some p6)] 32)).heap.size (w.alloc (.cells #[.int .u64 hi, .int .u64 lo, .pointer (some p6)] 32)) W → W.cell? ⟨w.heap.size, 0, none⟩ = some (.int .u64 hi) ∧ W.cell? ⟨w.heap.size, 1, none⟩ = some (.int .u64 lo) ∧ Below w.heap.size w W := fun W hb => by
    obtain ⟨h1, h2⟩ := boxed1 hb
    exact ⟨h1.cell 0, h1.cell 1, h2.below (Nat.le_refl _) (fun i q => by have : i = w.heap.size := q; omega)⟩
  have HE := Hid.mk'' E
  clear E
  by_cases h0 : hi = 0
  · subst h0
    by_cases h1 : lo / 4294967296 = 65535
    · have q1 : (lo : Int) / 4294967296 = 65535 := by omega
      rw [decide_eq_true h1]
      clear h1
      unfold AV
      go_enter Tryf.func32, Tryf.ntmps32
      go_wp2_with (first
        | (go_at_call 15; go_must (refine (is6_six 0 lo p4 p6 _ (by exact HZ.out _ ((Below.refl _ _).alloc (Nat.le_refl _) _))).mono ?_); rintro e w1 ⟨rfl, hb⟩; obtain ⟨k0, k1, hbb'⟩ := HE.out _ hb; have hbb := Hid.mk'' hbb'; clear hb hbb')
        | fail)
      go_ret
      exact ⟨rfl, hbb.out⟩
    · have q1 : ¬ (lo : Int) / 4294967296 = 65535 := by omega
      rw [decide_eq_false h1]
      clear h1
      unfold AV
      go_enter Tryf.func32, Tryf.ntmps32
      go_wp2_with (first
        | (go_at_call 15; go_must (refine (is6_six 0 lo p4 p6 _ (by exact HZ.out _ ((Below.refl _ _).alloc (Nat.le_refl _) _))).mono ?_); rintro e w1 ⟨rfl, hb⟩; obtain ⟨k0, k1, hbb'⟩ := HE.out _ hb; have hbb := Hid.mk'' hbb'; clear hb hbb')
        | fail)
      go_ret
      exact ⟨by simp [q1], hbb.out⟩
  · have q0 : ¬ (hi : Int) = 0 := by omega
    rw [decide_eq_false h0]
    clear h0
    unfold AV
    go_enter Tryf.func32, Tryf.ntmps32
    go_wp2_with (first
      | (go_at_call 15; go_must (refine (is6_six hi lo p4 p6 _ (by exact HZ.out _ ((Below.refl _ _).alloc (Nat.le_refl _) _))).mono ?_); rintro e w1 ⟨rfl, hb⟩; obtain ⟨k0, k1, hbb'⟩ := HE.out _ hb; have hbb := Hid.mk'' hbb'; clear hb hbb')
      | fail)
    go_ret
    exact ⟨rfl, hbb.out⟩

theorem halves_any (b : Nat) (x y : Value) (w : World) (c0 : w.cell? ⟨b, 0, none⟩ = some x) (c1 : w.cell? ⟨b, 1, none⟩ = some y) : Calls Tryf.prog 42 #[.pointer (some ⟨b, 0, none⟩)] w fun e w' => e = .returned (.agg #[.pointer (some ⟨b, 0, none⟩), .pointer (some ⟨b, 1, none⟩)]) ∧ Below w.heap.size w w' := by
  have hb : b < w.heap.size := World.block_lt_of_cell? w _ c0
  go_enter Tryf.func42, Tryf.ntmps42
  go_wp2_with fail
  go_region
  go_wp2
  refine bodyPost_ret (v := .agg #[.pointer (some ⟨b, 0, none⟩), .pointer (some ⟨b, 1, none⟩)]) (by simp [results, Tryf.results42, go_sem]) rfl ?_
  exact ⟨rfl, below_drew ((Below.refl _ _).alloc (Nat.le_refl _) _)⟩

theorem ix0 (a b : Option Addr) (W : World) : (Instr.index 89 (.agg #[.pointer a, .pointer b]) (.int .u8 0)).run Tryf.prog W = .ok (.pointer a) W := by kernel_rfl
theorem ix1 (a b : Option Addr) (W : World) : (Instr.index 89 (.agg #[.pointer a, .pointer b]) (.int .u8 1)).run Tryf.prog W = .ok (.pointer b) W := by kernel_rfl

set_option maxHeartbeats 2000000 in
theorem v6_any (hi lo : Nat) (z : Option Addr) (i : Nat) (w : World) (hi8 : i < 8) : Calls Tryf.prog 39 #[AV hi lo z, .int .u8 i] w fun e w' => (∃ x : Nat, e = .returned (.int .u16 x) ∧ x < 65536) ∧ Below w.heap.size w w' := by
  have E : ∀ W : World, Below (w.alloc (.cells #[.int .u64 hi, .int .u64 lo, .pointer z] 32)).heap.size (w.alloc (.cells #[.int .u64 hi, .int .u64 lo, .pointer z] 32)) W → W.cell? ⟨w.heap.size, 0, none⟩ = some (.int .u64 hi) ∧ W.cell? ⟨w.heap.size, 1, none⟩ = some (.int .u64 lo) ∧ Below w.heap.size w W := fun W hb => by
    obtain ⟨h1, h2⟩ := boxed1 hb
    exact ⟨h1.cell 0, h1.cell 1, h2.below (Nat.le_refl _) (fun i q => by have : i = w.heap.size := q; omega)⟩
  have HE := Hid.mk'' E
  clear E
  unfold AV
  have x0 := ix0
  have x1 := ix1
  have h : i = 0 ∨ i = 1 ∨ i = 2 ∨ i = 3 ∨ i = 4 ∨ i = 5 ∨ i = 6 ∨ i = 7 := by omega
  rcases h with rfl | rfl | rfl | rfl | rfl | rfl | rfl | rfl
  all_goals (
    go_enter Tryf.func39, Tryf.ntmps39
    go_wp2_with (first
      | (go_at_call 42; go_must (refine (halves_any w.heap.size (.int .u64 hi) (.int .u64 lo) _ (by exact (Blk.new w 32 _).cell 0) (by exact (Blk.new w 32 _).cell 1)).mono ?_); rintro e w1 ⟨rfl, hb⟩; obtain ⟨k0, k1, hbb'⟩ := HE.out _ hb; have hbb := Hid.mk'' hbb'; clear hb hbb')
      | fail)
    go_ret
    refine ⟨?_, hbb.out⟩)
  · exact ⟨hi / 281474976710656 % 65536, by simp [IntKind.wrap_u16], by omega⟩
  · exact ⟨hi / 4294967296 % 65536, by simp [IntKind.wrap_u16], by omega⟩
  · exact ⟨hi / 65536 % 65536, by simp [IntKind.wrap_u16], by omega⟩
  · exact ⟨hi % 65536, by simp [IntKind.wrap_u16], by omega⟩
  · exact ⟨lo / 281474976710656 % 65536, by simp [IntKind.wrap_u16], by omega⟩
  · exact ⟨lo / 4294967296 % 65536, by simp [IntKind.wrap_u16], by omega⟩
  · exact ⟨lo / 65536 % 65536, by simp [IntKind.wrap_u16], by omega⟩
  · exact ⟨lo % 65536, by simp [IntKind.wrap_u16], by omega⟩

set_option maxRecDepth 100000 in
set_option maxHeartbeats 2000000 in
theorem unmap_any (hi lo : Nat) (p4 p6 : Addr) (w : World) (hz : Zs w p4 p6) (h0 : hi = 0) (h1 : lo / 4294967296 = 65535) : Calls Tryf.prog 37 #[AV hi lo (some p6)] w fun e w' => e = .returned (AV hi lo (some p4)) ∧ Below w.heap.size w w' := by
  have HZ : Hid (∀ W, Below w.heap.size w W → Zs W p4 p6) := fun W hb => hz.later hb
  have hin := fun W (hb : Below w.heap.size w W) => in6_any hi lo p4 p6 W (hz.later hb)
  rw [decide_eq_true h0, decide_eq_true h1] at hin
  have HI : Hid (∀ W, Below w.heap.size w W → Calls Tryf.prog 32 #[AV hi lo (some p6)] W fun e w' => e = .returned (.bool (true && true)) ∧ Below W.heap.size W w') := hin
  clear hz hin h0 h1
  unfold AV at HI ⊢
  go_enter Tryf.func37, Tryf.ntmps37
  go_wp2_with (first
    | (go_at_call 32; go_must (refine (HI.out _ (((Below.refl _ _).alloc (Nat.le_refl _) _).alloc (by simp) _)).mono ?_); rintro e w1 ⟨rfl, hb⟩; obtain ⟨hB1, hB0, hK⟩ := boxed2 hb; have HK := Hid.mk'' hK; have HB0 := Hid.mk'' hB0; have HB1 := Hid.mk'' hB1; have k0 : w1.cell? ⟨w.heap.size, 0, none⟩ = some (.int .u64 hi) := hB0.cell 0; have k1 : w1.cell? ⟨w.heap.size, 1, none⟩ = some (.int .u64 lo) := hB0.cell 1; have k2 : w1.cell? ⟨w.heap.size, 2, none⟩ = some (.pointer (some p6)) := hB0.cell 2; have j0 : w1.cell? ⟨w.heap.size + 1, 0, none⟩ = some (.int .u64 0) := hB1.cell 0; have j1 : w1.cell? ⟨w.heap.size + 1, 1, none⟩ = some (.int .u64 0) := hB1.cell 1; have j2 : w1.cell? ⟨w.heap.size + 1, 2, none⟩ = some (.pointer none) := hB1.cell 2; have f0 := hB0.frozen; have f1 := hB1.frozen; have g4 : w1.cell? ⟨1, 0, none⟩ = some (.pointer (some p4)) := (HZ.out _ (hK.below (Nat.le_refl _) (fun i q => by rcases q with q | q <;> omega))).c4; clear hb hB1 hB0 hK)
    | fail)
  have HB2 := Hid.mk'' ((((HB1.out.kept ((Kept.refl w1 (fun i => i = w.heap.size)).set (k := 2) (.inl rfl) (.pointer (some p4))) (by show ¬ w.heap.size + 1 = w.heap.size; omega)).set 0 (.int .u64 hi)).set 1 (.int .u64 lo)).set 2 (.pointer (some p4)))
  have HK2 := Hid.mk'' ((((HK.out.set (k := 2) (.inl (.inl rfl)) (.pointer (some p4))).set (k := 0) (.inl (.inr rfl)) (.int .u64 hi)).set (k := 1) (.inl (.inr rfl)) (.int .u64 lo)).set (k := 2) (.inl (.inr rfl)) (.pointer (some p4)))
  refine bodyPost_ret (v := .agg #[.int .u64 hi, .int .u64 lo, .pointer (some p4)]) (by simp [results, Tryf.results37, go_sem, HB2.out.cell]) rfl ?_
  exact ⟨rfl, HK2.out.below (Nat.le_refl _) (fun i q => by rcases q with q | q <;> omega)⟩

end Go.Proofs.Qxb6003778aFmt
