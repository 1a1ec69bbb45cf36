import Derived.Test.Qxb6003778aFmtAnG
namespace Go.Proofs.Qxb6003778aFmt
open Go.RowKit
set_option linter.unusedVariables false
set_option linter.unusedSimpArgs false

set_option maxRecDepth 100000 in
set_option maxHeartbeats 4000000 in
theorem peers_f4 (rb : Nat) (ts sub : Int) (g off n cap : Nat) (bb : Nat → UInt8) (k : ByteArray) (p4 p6 : Addr) (w : World) (hz : Zs w p4 p6) (hB : Blk w rb 40 (recOf ts sub (.slice (some ⟨g, off, none⟩) n cap))) (hn : 16 ≤ n) (hnc : n ≤ cap) (hcap : cap ≤ maxLen)
    (hc : ∀ i, i < n → w.cell? ⟨g, off + i, none⟩ = some (.int .u8 (bb i).toNat)) (h10 : (bb 6).toNat = 0) (h11 : (bb 7).toNat = 1) :
    Calls Tryf.prog 18 #[.pointer (some ⟨rb, 0, none⟩), .bool false, .string k] w fun e w' =>
      ∃ x, e = .returned (.tuple #[.agg #[.int .u32 (be2 bb : Nat), .int .u32 (be2 fun i => bb (2 + i) : Nat), .int .u64 0, .int .u64 (lo4 fun i => bb (8 + i) : Nat), .pointer (some p4), .int .u64 0, .int .u64 (lo4 fun i => bb (12 + i) : Nat), .pointer (some p4)], .slice (some ⟨g, x, none⟩) (n - 8 - 8) (cap - 8 - 8), .nilIface]) ∧ (x = off + 8 + 8 ∨ n = 16) ∧ Below w.heap.size w w' := by
  unfold maxLen at hcap
  have HZ : Hid (∀ w', Below w.heap.size w w' → Zs w' p4 p6) := fun w' hb => hz.later hb
  have HC : Hid (∀ w', Below w.heap.size w w' → ∀ i, i < n → w'.cell? ⟨g, off + i, none⟩ = some (.int .u8 (bb i).toNat)) := fun w' hb i hi => cell_later hb (hc i hi)
  have rl := hB.lt
  have r1 : ∀ w', Below w.heap.size w w' → w'.cell? ⟨rb, 1, none⟩ = some (.int .u16 16) := fun w' hb => cell_later hb (hB.cell 1)
  have r3 : ∀ w', Below w.heap.size w w' → w'.cell? ⟨rb, 3, none⟩ = some (.slice (some ⟨g, off, none⟩) n cap) := fun w' hb => cell_later hb (hB.cell 3)
  have al3 : ∀ a b c, Below w.heap.size w (((w.alloc a).alloc b).alloc c) := fun a b c => (((Below.refl _ _).alloc (Nat.le_refl _) _).alloc (by simp) _).alloc (by simp; omega) _
  have s1 : ∀ a b c, (((w.alloc a).alloc b).alloc c).cell? ⟨rb, 1, none⟩ = some (.int .u16 16) := fun a b c => r1 _ (al3 a b c)
  have s3 : ∀ a b c, (((w.alloc a).alloc b).alloc c).cell? ⟨rb, 3, none⟩ = some (.slice (some ⟨g, off, none⟩) n cap) := fun a b c => r3 _ (al3 a b c)
  have n1 : ¬ (n : Int) < 8 := by omega
  have n2 : (2 : Int) ≤ (n : Int) := by omega
  have n3 : (6 : Int) ≤ (n : Int) := by omega
  have w10 : IntKind.i64.wrap 6 = 6 := by decide
  have n4 : (8 : Int) ≤ (n : Int) := by omega
  have e02 : ¬ cap = 2 := by omega
  have e10 : ¬ cap = 6 := by omega
  have e12 : ¬ cap = 8 := by omega
  have nc : (n : Int) ≤ (cap : Int) := by omega
  clear hz hc hB r1 r3
  go_enter Tryf.func18, Tryf.ntmps18
  have v0 : IntKind.u32.wrap ((be2 bb : Nat) : Int) = (be2 bb : Nat) := be2_wrap _
  have v1 : IntKind.u32.wrap ((be2 fun i => bb (2 + i) : Nat) : Int) = (be2 fun i => bb (2 + i) : Nat) := be2_wrap _
  have HG : Hid (∀ a b, Frm w ((((w.alloc a).alloc b).alloc (.cells Z8 62)).alloc (.cells Z8 62)) Z8) := fun a b => Frm.mk4 w a b
  go_wp2_with (first
    | (go_at_call 28; go_must (refine (uint16n_any bb g off n cap _ (by omega) (by exact HC.out _ (HG.out _ _).below 0 (by omega)) (by exact HC.out _ (HG.out _ _).below 1 (by omega))).mono ?_); rintro e w2 ⟨rfl, hb2'⟩; have HF2 : Hid (Frm w w2 Z8) := (HG.out _ _).later hb2'; have k0 : w2.cell? ⟨w.heap.size + 3, 0, none⟩ = some (.int .u32 0) := HF2.out.b13.cell 0; have f2 := HF2.out.f; clear hb2')
    | fail)
  obtain ⟨W1, hW1⟩ : ∃ W1, W1 = (w2.setCell ⟨w.heap.size + 3, 0, none⟩ (.int .u32 (be2 bb : Nat))) := ⟨_, rfl⟩
  have HW1 : Hid (Frm w W1 #[.int .u32 (be2 bb : Nat), .int .u32 0, .int .u64 0, .int .u64 0, .pointer none, .int .u64 0, .int .u64 0, .pointer none]) := by rw [Hid, hW1]; exact HF2.out.set 0 _
  have e1 : w2.setCell ⟨w.heap.size + 1 + 1 + 1, 0, none⟩ (.int .u32 (be2 bb : Nat)) = W1 := hW1.symm
  simp only [e1]
  have HC1 : Hid (∀ i, i < n → W1.cell? ⟨g, off + i, none⟩ = some (.int .u8 (bb i).toNat)) := fun i hi => HC.out W1 HW1.out.below i hi
  clear hW1 e1 k0 f2 HF2 HG s1 s3 al3
  go_region_held3 (fun _ => True) (trivial) ((first
    | (go_at_call 28; refine (uint16n_any (fun i => bb (2 + i)) g (off + 2) (n - 2) (cap - 2) _ (by omega) (by exact HC1.out 2 (by omega)) (by exact HC1.out 3 (by omega))).mono ?_; rintro e w3 ⟨rfl, hb3'⟩; have HF3 : Hid (Frm w w3 #[.int .u32 (be2 bb : Nat), .int .u32 0, .int .u64 0, .int .u64 0, .pointer none, .int .u64 0, .int .u64 0, .pointer none]) := HW1.out.drew.later hb3'; have k1 : w3.cell? ⟨w.heap.size + 3, 1, none⟩ = some (.int .u32 0) := HF3.out.b13.cell 1; have f3 := HF3.out.f)
    | fail))
  obtain ⟨W2, hW2⟩ : ∃ W2, W2 = w3.setCell ⟨w.heap.size + 3, 1, none⟩ (.int .u32 (be2 fun i => bb (2 + i) : Nat)) := ⟨_, rfl⟩
  have HW2 : Hid (Frm w W2 #[.int .u32 (be2 bb : Nat), .int .u32 (be2 fun i => bb (2 + i) : Nat), .int .u64 0, .int .u64 0, .pointer none, .int .u64 0, .int .u64 0, .pointer none]) := by rw [Hid, hW2]; exact HF3.out.set 1 _
  have HC2 : Hid (∀ i, i < n → W2.cell? ⟨g, off + i, none⟩ = some (.int .u8 (bb i).toNat)) := fun i hi => HC.out W2 HW2.out.below i hi
  rw [← hW2]
  clear hW2 k1 f3 HF3 hb3' HW1 HC1 v0 v1
  go_wp2_with fail
  have C10 : Hid (W2.cell? ⟨g, off + 6, none⟩ = some (.int .u8 0)) := by rw [Hid, HC2.out 6 (by omega), h10]; rfl
  have C11 : Hid (W2.cell? ⟨g, off + 6 + 1, none⟩ = some (.int .u8 1)) := by rw [Hid, show off + 6 + 1 = off + 7 by omega, HC2.out 7 (by omega), h11]; rfl
  go_region_held3 (fun _ => True) (trivial) ((first
    | (go_at_call 28; refine (uint16_any g (off + 6) (n - 6) (cap - 6) 0 1 _ (by omega) (by omega) (by omega) (by omega) (by omega) (by exact C10.out) (by exact C11.out)).mono ?_; rintro e w4 ⟨rfl, hb4'⟩)
    | fail))
  have HF4 : Hid (Frm w w4 #[.int .u32 (be2 bb : Nat), .int .u32 (be2 fun i => bb (2 + i) : Nat), .int .u64 0, .int .u64 0, .pointer none, .int .u64 0, .int .u64 0, .pointer none]) := HW2.out.drew.later hb4'
  clear C10 C11 hb4' HW2 HC2 h10 h11
  have m1 : ¬ (n : Int) - 8 < 8 := by omega
  have m2 : ((n - 8 : Nat) : Int) = (n : Int) - 8 := by omega
  have m3 : (4 : Int) ≤ ((cap - 8 : Nat) : Int) := by omega
  have m4 : (8 : Int) ≤ ((cap - 8 : Nat) : Int) := by omega
  have m5 : ¬ cap - 8 = 4 := by omega
  have w32 : IntKind.i64.wrap 8 = 8 := by decide
  have HCX : Hid (∀ w', Below w.heap.size w w' → ∀ j i, j + i < n → w'.cell? ⟨g, off + j + i, none⟩ = some (.int .u8 (bb (j + i)).toNat)) := fun w' hb j i hi => by rw [Nat.add_assoc]; exact HC.out w' hb (j + i) hi
  go_wp2_with (first
    | (go_at_call 29; have _tok := HF5; go_must (refine (fromSlice4 (fun i => bb (12 + i)) g (off + 8 + 4) (cap - 8 - 4) p4 p6 _ (by exact HZ.out _ (((HF5.out.set 2 _).set 3 _).set 4 _).below) (fun i hi => by rw [Nat.add_assoc off 8 4]; exact HCX.out _ (((HF5.out.set 2 _).set 3 _).set 4 _).below 12 i (by omega))).mono ?_); rintro e w6 ⟨rfl, hb6'⟩; unfold AV; have HF6 : Hid (Frm w w6 #[.int .u32 (be2 bb : Nat), .int .u32 (be2 fun i => bb (2 + i) : Nat), .int .u64 0, .int .u64 (lo4 fun i => bb (8 + i) : Nat), .pointer (some p4), .int .u64 0, .int .u64 0, .pointer none]) := (((HF5.out.set 2 _).set 3 _).set 4 _).later hb6'; have m5 : w6.cell? ⟨w.heap.size + 3, 5, none⟩ = some (.int .u64 0) := HF6.out.b13.cell 5; have m6 : w6.cell? ⟨w.heap.size + 3, 6, none⟩ = some (.int .u64 0) := HF6.out.b13.cell 6; have m7 : w6.cell? ⟨w.heap.size + 3, 7, none⟩ = some (.pointer none) := HF6.out.b13.cell 7; have f6 := HF6.out.f; clear hb6')
    | (go_at_call 29; go_must (refine (fromSlice4 (fun i => bb (8 + i)) g (off + 8) (cap - 8) p4 p6 _ (by exact HZ.out _ HF4.out.below) (fun i hi => HCX.out _ HF4.out.below 8 i (by omega))).mono ?_); rintro e w5 ⟨rfl, hb5'⟩; unfold AV; have HF5 : Hid (Frm w w5 #[.int .u32 (be2 bb : Nat), .int .u32 (be2 fun i => bb (2 + i) : Nat), .int .u64 0, .int .u64 0, .pointer none, .int .u64 0, .int .u64 0, .pointer none]) := HF4.out.later hb5'; have k2 : w5.cell? ⟨w.heap.size + 3, 2, none⟩ = some (.int .u64 0) := HF5.out.b13.cell 2; have k3 : w5.cell? ⟨w.heap.size + 3, 3, none⟩ = some (.int .u64 0) := HF5.out.b13.cell 3; have k4 : w5.cell? ⟨w.heap.size + 3, 4, none⟩ = some (.pointer none) := HF5.out.b13.cell 4; have f5 := HF5.out.f; clear hb5')
    | fail)
  obtain ⟨W7, hW7⟩ : ∃ W7, W7 = ((w6.setCell ⟨w.heap.size + 3, 5, none⟩ (.int .u64 0)).setCell ⟨w.heap.size + 3, 6, none⟩ (.int .u64 (lo4 fun i => bb (12 + i) : Nat))).setCell ⟨w.heap.size + 3, 7, none⟩ (.pointer (some p4)) := ⟨_, rfl⟩
  have HF7 : Hid (Frm w W7 #[.int .u32 (be2 bb : Nat), .int .u32 (be2 fun i => bb (2 + i) : Nat), .int .u64 0, .int .u64 (lo4 fun i => bb (8 + i) : Nat), .pointer (some p4), .int .u64 0, .int .u64 (lo4 fun i => bb (12 + i) : Nat), .pointer (some p4)]) := by rw [Hid, hW7]; exact ((HF6.out.set 5 _).set 6 _).set 7 _
  have e7 : ((w6.setCell ⟨w.heap.size + 1 + 1 + 1, 5, none⟩ (.int .u64 0)).setCell ⟨w.heap.size + 1 + 1 + 1, 6, none⟩ (.int .u64 (lo4 fun i => bb (12 + i) : Nat))).setCell ⟨w.heap.size + 1 + 1 + 1, 7, none⟩ (.pointer (some p4)) = W7 := hW7.symm
  simp only [e7]
  clear hW7 e7 HF6 HF5 HF4 m5 m6 m7 f6 k2 k3 k4 f5 HCX HZ HC
  have g0 : W7.cell? ⟨w.heap.size + 3, 0, none⟩ = some (.int .u32 (be2 bb : Nat)) := HF7.out.b13.cell 0
  have g1 : W7.cell? ⟨w.heap.size + 3, 1, none⟩ = some (.int .u32 (be2 fun i => bb (2 + i) : Nat)) := HF7.out.b13.cell 1
  have g2 : W7.cell? ⟨w.heap.size + 3, 2, none⟩ = some (.int .u64 0) := HF7.out.b13.cell 2
  have g3 : W7.cell? ⟨w.heap.size + 3, 3, none⟩ = some (.int .u64 (lo4 fun i => bb (8 + i) : Nat)) := HF7.out.b13.cell 3
  have g4 : W7.cell? ⟨w.heap.size + 3, 4, none⟩ = some (.pointer (some p4)) := HF7.out.b13.cell 4
  have g5 : W7.cell? ⟨w.heap.size + 3, 5, none⟩ = some (.int .u64 0) := HF7.out.b13.cell 5
  have g6 : W7.cell? ⟨w.heap.size + 3, 6, none⟩ = some (.int .u64 (lo4 fun i => bb (12 + i) : Nat)) := HF7.out.b13.cell 6
  have g7 : W7.cell? ⟨w.heap.size + 3, 7, none⟩ = some (.pointer (some p4)) := HF7.out.b13.cell 7
  have o0 : W7.cell? ⟨w.heap.size + 2, 0, none⟩ = some (.int .u32 0) := HF7.out.b6.cell 0
  have o1 : W7.cell? ⟨w.heap.size + 2, 1, none⟩ = some (.int .u32 0) := HF7.out.b6.cell 1
  have o2 : W7.cell? ⟨w.heap.size + 2, 2, none⟩ = some (.int .u64 0) := HF7.out.b6.cell 2
  have o3 : W7.cell? ⟨w.heap.size + 2, 3, none⟩ = some (.int .u64 0) := HF7.out.b6.cell 3
  have o4 : W7.cell? ⟨w.heap.size + 2, 4, none⟩ = some (.pointer none) := HF7.out.b6.cell 4
  have o5 : W7.cell? ⟨w.heap.size + 2, 5, none⟩ = some (.int .u64 0) := HF7.out.b6.cell 5
  have o6 : W7.cell? ⟨w.heap.size + 2, 6, none⟩ = some (.int .u64 0) := HF7.out.b6.cell 6
  have o7 : W7.cell? ⟨w.heap.size + 2, 7, none⟩ = some (.pointer none) := HF7.out.b6.cell 7
  have q2 := HF7.out.b6.frozen
  have q3 := HF7.out.f
  have hb8 := ((((((((HF7.out.b6.set 0 (.int .u32 (be2 bb : Nat))).set 1 (.int .u32 (be2 fun i => bb (2 + i) : Nat))).set 2 (.int .u64 0)).set 3 (.int .u64 (lo4 fun i => bb (8 + i) : Nat))).set 4 (.pointer (some p4))).set 5 (.int .u64 0)).set 6 (.int .u64 (lo4 fun i => bb (12 + i) : Nat))).set 7 (.pointer (some p4))).drew
  have hk8 := ((((((((HF7.out.kept.set (k := 0) (.inl (.inl rfl)) (.int .u32 (be2 bb : Nat))).set (k := 1) (.inl (.inl rfl)) (.int .u32 (be2 fun i => bb (2 + i) : Nat))).set (k := 2) (.inl (.inl rfl)) (.int .u64 0)).set (k := 3) (.inl (.inl rfl)) (.int .u64 (lo4 fun i => bb (8 + i) : Nat))).set (k := 4) (.inl (.inl rfl)) (.pointer (some p4))).set (k := 5) (.inl (.inl rfl)) (.int .u64 0)).set (k := 6) (.inl (.inl rfl)) (.int .u64 (lo4 fun i => bb (12 + i) : Nat))).set (k := 7) (.inl (.inl rfl)) (.pointer (some p4))).drew
  have HB8 := Hid.mk' hb8
  have HK8 := Hid.mk' hk8
  clear hb8 hk8
  have m8 : (8 : Int) ≤ ((n - 8 : Nat) : Int) := by omega
  by_cases h20 : cap - 8 = 8
  · go_region
    go_wp2
    refine bodyPost_ret (v := .tuple #[.agg #[.int .u32 (be2 bb : Nat), .int .u32 (be2 fun i => bb (2 + i) : Nat), .int .u64 0, .int .u64 (lo4 fun i => bb (8 + i) : Nat), .pointer (some p4), .int .u64 0, .int .u64 (lo4 fun i => bb (12 + i) : Nat), .pointer (some p4)], .slice (some ⟨g, off + 8, none⟩) (n - 8 - 8) (cap - 8 - 8), .nilIface]) (by simp [results, Tryf.results18, go_sem, HB8.out.cell, h20]) rfl ?_
    exact ⟨_, rfl, .inr (by omega), HK8.out.below (Nat.le_refl _) (fun i q => by rcases q with q | q <;> omega)⟩
  · go_region
    go_wp2
    refine bodyPost_ret (v := .tuple #[.agg #[.int .u32 (be2 bb : Nat), .int .u32 (be2 fun i => bb (2 + i) : Nat), .int .u64 0, .int .u64 (lo4 fun i => bb (8 + i) : Nat), .pointer (some p4), .int .u64 0, .int .u64 (lo4 fun i => bb (12 + i) : Nat), .pointer (some p4)], .slice (some ⟨g, off + 8 + 8, none⟩) (n - 8 - 8) (cap - 8 - 8), .nilIface]) (by simp [results, Tryf.results18, go_sem, HB8.out.cell]) rfl ?_
    exact ⟨_, rfl, .inl rfl, HK8.out.below (Nat.le_refl _) (fun i q => by rcases q with q | q <;> omega)⟩


end Go.Proofs.Qxb6003778aFmt
