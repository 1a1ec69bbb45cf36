import Derived.Test.Qxb6003778aFmtAnG
namespace Go.Proofs.Qxb6003778aFmt
open Go.RowKit
set_option linter.unusedVariables false
set_option linter.unusedSimpArgs false

set_option maxRecDepth 100000 in
set_option maxHeartbeats 4000000 in
theorem peers_t6 (rb : Nat) (ts sub : Int) (g off n cap : Nat) (bb : Nat → UInt8) (k : ByteArray) (p4 p6 : Addr) (w : World) (hz : Zs w p4 p6) (hB : Blk w rb 40 (recOf ts sub (.slice (some ⟨g, off, none⟩) n cap))) (hn : 44 ≤ n) (hnc : n ≤ cap) (hcap : cap ≤ maxLen)
    (hc : ∀ i, i < n → w.cell? ⟨g, off + i, none⟩ = some (.int .u8 (bb i).toNat)) (h10 : (bb 10).toNat = 0) (h11 : (bb 11).toNat = 2) :
    Calls Tryf.prog 18 #[.pointer (some ⟨rb, 0, none⟩), .bool true, .string k] w fun e w' =>
      ∃ x, e = .returned (.tuple #[.agg #[.int .u32 (be4 bb : Nat), .int .u32 (be4 fun i => bb (4 + i) : Nat), .int .u64 (be8 fun i => bb (12 + i) : Nat), .int .u64 (be8 fun i => bb (12 + (8 + i)) : Nat), .pointer (some p6), .int .u64 (be8 fun i => bb (28 + i) : Nat), .int .u64 (be8 fun i => bb (28 + (8 + i)) : Nat), .pointer (some p6)], .slice (some ⟨g, x, none⟩) (n - 12 - 32) (cap - 12 - 32), .nilIface]) ∧ (x = off + 12 + 32 ∨ n = 44) ∧ Below w.heap.size w w' := by
  unfold maxLen at hcap
  have HZ : Hid (∀ w', Below w.heap.size w w' → Zs w' p4 p6) := fun w' hb => hz.later hb
  have HC : Hid (∀ w', Below w.heap.size w w' → ∀ i, i < n → w'.cell? ⟨g, off + i, none⟩ = some (.int .u8 (bb i).toNat)) := fun w' hb i hi => cell_later hb (hc i hi)
  have rl := hB.lt
  have r1 : ∀ w', Below w.heap.size w w' → w'.cell? ⟨rb, 1, none⟩ = some (.int .u16 16) := fun w' hb => cell_later hb (hB.cell 1)
  have r3 : ∀ w', Below w.heap.size w w' → w'.cell? ⟨rb, 3, none⟩ = some (.slice (some ⟨g, off, none⟩) n cap) := fun w' hb => cell_later hb (hB.cell 3)
  have al3 : ∀ a b c, Below w.heap.size w (((w.alloc a).alloc b).alloc c) := fun a b c => (((Below.refl _ _).alloc (Nat.le_refl _) _).alloc (by simp) _).alloc (by simp; omega) _
  have s1 : ∀ a b c, (((w.alloc a).alloc b).alloc c).cell? ⟨rb, 1, none⟩ = some (.int .u16 16) := fun a b c => r1 _ (al3 a b c)
  have s3 : ∀ a b c, (((w.alloc a).alloc b).alloc c).cell? ⟨rb, 3, none⟩ = some (.slice (some ⟨g, off, none⟩) n cap) := fun a b c => r3 _ (al3 a b c)
  have n1 : ¬ (n : Int) < 12 := by omega
  have n2 : (4 : Int) ≤ (n : Int) := by omega
  have n3 : (10 : Int) ≤ (n : Int) := by omega
  have w10 : IntKind.i64.wrap 10 = 10 := by decide
  have n4 : (12 : Int) ≤ (n : Int) := by omega
  have e02 : ¬ cap = 4 := by omega
  have e10 : ¬ cap = 10 := by omega
  have e12 : ¬ cap = 12 := by omega
  have nc : (n : Int) ≤ (cap : Int) := by omega
  clear hz hc hB r1 r3
  go_enter Tryf.func18, Tryf.ntmps18
  go_wp2_with fail
  obtain ⟨W, hW⟩ : ∃ W, W = ((((w.alloc (.cells #[.pointer (some ⟨rb, 0, none⟩)] 60)).alloc (.cells #[.string k] 9)).alloc (.cells Z8 62)).alloc (.cells Z8 62)) := ⟨_, rfl⟩
  have HW : Hid (Frm w W Z8) := by rw [Hid, hW]; exact Frm.mk4 _ _ _
  have HCW : Hid (∀ i, i < n → W.cell? ⟨g, off + i, none⟩ = some (.int .u8 (bb i).toNat)) := fun i hi => HC.out W HW.out.below i hi
  rw [← hW]
  clear hW s1 s3 al3
  go_region_held3 (fun _ => True) (trivial) ((first
    | (go_at_call 27; have _tok := hb2'; refine (uint32_any (fun i => bb (4 + i)) g (off + 4) (n - 4) (cap - 4) _ (by omega) (by exact cell_later hb2' (by exact HCW.out 4 (by omega))) (by exact cell_later hb2' (by exact HCW.out 5 (by omega))) (by exact cell_later hb2' (by exact HCW.out 6 (by omega))) (by exact cell_later hb2' (by exact HCW.out 7 (by omega)))).mono ?_; rintro e w3 ⟨rfl, hb3'⟩; have HF3 : Hid (Frm w w3 Z8) := (HW.out.drew.later hb2').later hb3'; have k0 : w3.cell? ⟨w.heap.size + 3, 0, none⟩ = some (.int .u32 0) := HF3.out.b13.cell 0; have k1 : w3.cell? ⟨w.heap.size + 3, 1, none⟩ = some (.int .u32 0) := HF3.out.b13.cell 1; have f3 := HF3.out.f)
    | (go_at_call 27; refine (uint32_any bb g off n cap _ (by omega) (by exact HCW.out 0 (by omega)) (by exact HCW.out 1 (by omega)) (by exact HCW.out 2 (by omega)) (by exact HCW.out 3 (by omega))).mono ?_; rintro e w2 ⟨rfl, hb2'⟩)
    | fail))
  obtain ⟨W2, hW2⟩ : ∃ W2, W2 = (w3.setCell ⟨w.heap.size + 3, 0, none⟩ (.int .u32 (be4 bb : Nat))).setCell ⟨w.heap.size + 3, 1, none⟩ (.int .u32 (be4 fun i => bb (4 + i) : Nat)) := ⟨_, rfl⟩
  have HW2 : Hid (Frm w W2 #[.int .u32 (be4 bb : Nat), .int .u32 (be4 fun i => bb (4 + i) : Nat), .int .u64 0, .int .u64 0, .pointer none, .int .u64 0, .int .u64 0, .pointer none]) := by rw [Hid, hW2]; exact (HF3.out.set 0 _).set 1 _
  have HC2 : Hid (∀ i, i < n → W2.cell? ⟨g, off + i, none⟩ = some (.int .u8 (bb i).toNat)) := fun i hi => HC.out W2 HW2.out.below i hi
  rw [← hW2]
  clear hW2 k0 k1 f3 HF3 hb3' hb2' HCW HW
  go_wp2_with fail
  have C10 : Hid (W2.cell? ⟨g, off + 10, none⟩ = some (.int .u8 0)) := by rw [Hid, HC2.out 10 (by omega), h10]; rfl
  have C11 : Hid (W2.cell? ⟨g, off + 10 + 1, none⟩ = some (.int .u8 2)) := by rw [Hid, show off + 10 + 1 = off + 11 by omega, HC2.out 11 (by omega), h11]; rfl
  go_region_held3 (fun _ => True) (trivial) ((first
    | (go_at_call 28; refine (uint16_any g (off + 10) (n - 10) (cap - 10) 0 2 _ (by omega) (by omega) (by omega) (by omega) (by omega) (by exact C10.out) (by exact C11.out)).mono ?_; rintro e w4 ⟨rfl, hb4'⟩)
    | fail))
  have HF4 : Hid (Frm w w4 #[.int .u32 (be4 bb : Nat), .int .u32 (be4 fun i => bb (4 + i) : Nat), .int .u64 0, .int .u64 0, .pointer none, .int .u64 0, .int .u64 0, .pointer none]) := HW2.out.drew.later hb4'
  clear C10 C11 hb4' HW2 HC2 h10 h11
  have m1 : ¬ (n : Int) - 12 < 32 := by omega
  have m2 : ((n - 12 : Nat) : Int) = (n : Int) - 12 := by omega
  have m3 : (16 : Int) ≤ ((cap - 12 : Nat) : Int) := by omega
  have m4 : (32 : Int) ≤ ((cap - 12 : Nat) : Int) := by omega
  have m5 : ¬ cap - 12 = 16 := by omega
  have w32 : IntKind.i64.wrap 32 = 32 := by decide
  have HCX : Hid (∀ w', Below w.heap.size w w' → ∀ j i, j + i < n → w'.cell? ⟨g, off + j + i, none⟩ = some (.int .u8 (bb (j + i)).toNat)) := fun w' hb j i hi => by rw [Nat.add_assoc]; exact HC.out w' hb (j + i) hi
  go_wp2_with (first
    | (go_at_call 29; have _tok := HF5; go_must (refine (fromSlice16 (fun i => bb (28 + i)) g (off + 12 + 16) (cap - 12 - 16) p4 p6 _ (by exact HZ.out _ (((HF5.out.set 2 _).set 3 _).set 4 _).below) (fun i hi => by rw [Nat.add_assoc off 12 16]; exact HCX.out _ (((HF5.out.set 2 _).set 3 _).set 4 _).below 28 i (by omega))).mono ?_); rintro e w6 ⟨rfl, hb6'⟩; unfold AV; have HF6 : Hid (Frm w w6 #[.int .u32 (be4 bb : Nat), .int .u32 (be4 fun i => bb (4 + i) : Nat), .int .u64 (be8 fun i => bb (12 + i) : Nat), .int .u64 (be8 fun i => bb (12 + (8 + i)) : Nat), .pointer (some p6), .int .u64 0, .int .u64 0, .pointer none]) := (((HF5.out.set 2 _).set 3 _).set 4 _).later hb6'; have m5 : w6.cell? ⟨w.heap.size + 3, 5, none⟩ = some (.int .u64 0) := HF6.out.b13.cell 5; have m6 : w6.cell? ⟨w.heap.size + 3, 6, none⟩ = some (.int .u64 0) := HF6.out.b13.cell 6; have m7 : w6.cell? ⟨w.heap.size + 3, 7, none⟩ = some (.pointer none) := HF6.out.b13.cell 7; have f6 := HF6.out.f; clear hb6')
    | (go_at_call 29; go_must (refine (fromSlice16 (fun i => bb (12 + i)) g (off + 12) (cap - 12) p4 p6 _ (by exact HZ.out _ HF4.out.below) (fun i hi => HCX.out _ HF4.out.below 12 i (by omega))).mono ?_); rintro e w5 ⟨rfl, hb5'⟩; unfold AV; have HF5 : Hid (Frm w w5 #[.int .u32 (be4 bb : Nat), .int .u32 (be4 fun i => bb (4 + i) : Nat), .int .u64 0, .int .u64 0, .pointer none, .int .u64 0, .int .u64 0, .pointer none]) := HF4.out.later hb5'; have k2 : w5.cell? ⟨w.heap.size + 3, 2, none⟩ = some (.int .u64 0) := HF5.out.b13.cell 2; have k3 : w5.cell? ⟨w.heap.size + 3, 3, none⟩ = some (.int .u64 0) := HF5.out.b13.cell 3; have k4 : w5.cell? ⟨w.heap.size + 3, 4, none⟩ = some (.pointer none) := HF5.out.b13.cell 4; have f5 := HF5.out.f; clear hb5')
    | fail)
  obtain ⟨W7, hW7⟩ : ∃ W7, W7 = ((w6.setCell ⟨w.heap.size + 3, 5, none⟩ (.int .u64 (be8 fun i => bb (28 + i) : Nat))).setCell ⟨w.heap.size + 3, 6, none⟩ (.int .u64 (be8 fun i => bb (28 + (8 + i)) : Nat))).setCell ⟨w.heap.size + 3, 7, none⟩ (.pointer (some p6)) := ⟨_, rfl⟩
  have HF7 : Hid (Frm w W7 #[.int .u32 (be4 bb : Nat), .int .u32 (be4 fun i => bb (4 + i) : Nat), .int .u64 (be8 fun i => bb (12 + i) : Nat), .int .u64 (be8 fun i => bb (12 + (8 + i)) : Nat), .pointer (some p6), .int .u64 (be8 fun i => bb (28 + i) : Nat), .int .u64 (be8 fun i => bb (28 + (8 + i)) : Nat), .pointer (some p6)]) := by rw [Hid, hW7]; exact ((HF6.out.set 5 _).set 6 _).set 7 _
  have e7 : ((w6.setCell ⟨w.heap.size + 1 + 1 + 1, 5, none⟩ (.int .u64 (be8 fun i => bb (28 + i) : Nat))).setCell ⟨w.heap.size + 1 + 1 + 1, 6, none⟩ (.int .u64 (be8 fun i => bb (28 + (8 + i)) : Nat))).setCell ⟨w.heap.size + 1 + 1 + 1, 7, none⟩ (.pointer (some p6)) = W7 := hW7.symm
  simp only [e7]
  clear hW7 e7 HF6 HF5 HF4 m5 m6 m7 f6 k2 k3 k4 f5 HCX HZ HC
  have g0 : W7.cell? ⟨w.heap.size + 3, 0, none⟩ = some (.int .u32 (be4 bb : Nat)) := HF7.out.b13.cell 0
  have g1 : W7.cell? ⟨w.heap.size + 3, 1, none⟩ = some (.int .u32 (be4 fun i => bb (4 + i) : Nat)) := HF7.out.b13.cell 1
  have g2 : W7.cell? ⟨w.heap.size + 3, 2, none⟩ = some (.int .u64 (be8 fun i => bb (12 + i) : Nat)) := HF7.out.b13.cell 2
  have g3 : W7.cell? ⟨w.heap.size + 3, 3, none⟩ = some (.int .u64 (be8 fun i => bb (12 + (8 + i)) : Nat)) := HF7.out.b13.cell 3
  have g4 : W7.cell? ⟨w.heap.size + 3, 4, none⟩ = some (.pointer (some p6)) := HF7.out.b13.cell 4
  have g5 : W7.cell? ⟨w.heap.size + 3, 5, none⟩ = some (.int .u64 (be8 fun i => bb (28 + i) : Nat)) := HF7.out.b13.cell 5
  have g6 : W7.cell? ⟨w.heap.size + 3, 6, none⟩ = some (.int .u64 (be8 fun i => bb (28 + (8 + i)) : Nat)) := HF7.out.b13.cell 6
  have g7 : W7.cell? ⟨w.heap.size + 3, 7, none⟩ = some (.pointer (some p6)) := HF7.out.b13.cell 7
  have o0 : W7.cell? ⟨w.heap.size + 2, 0, none⟩ = some (.int .u32 0) := HF7.out.b6.cell 0
  have o1 : W7.cell? ⟨w.heap.size + 2, 1, none⟩ = some (.int .u32 0) := HF7.out.b6.cell 1
  have o2 : W7.cell? ⟨w.heap.size + 2, 2, none⟩ = some (.int .u64 0) := HF7.out.b6.cell 2
  have o3 : W7.cell? ⟨w.heap.size + 2, 3, none⟩ = some (.int .u64 0) := HF7.out.b6.cell 3
  have o4 : W7.cell? ⟨w.heap.size + 2, 4, none⟩ = some (.pointer none) := HF7.out.b6.cell 4
  have o5 : W7.cell? ⟨w.heap.size + 2, 5, none⟩ = some (.int .u64 0) := HF7.out.b6.cell 5
  have o6 : W7.cell? ⟨w.heap.size + 2, 6, none⟩ = some (.int .u64 0) := HF7.out.b6.cell 6
  have o7 : W7.cell? ⟨w.heap.size + 2, 7, none⟩ = some (.pointer none) := HF7.out.b6.cell 7
  have q2 := HF7.out.b6.frozen
  have q3 := HF7.out.f
  have hb8 := ((((((((HF7.out.b6.set 0 (.int .u32 (be4 bb : Nat))).set 1 (.int .u32 (be4 fun i => bb (4 + i) : Nat))).set 2 (.int .u64 (be8 fun i => bb (12 + i) : Nat))).set 3 (.int .u64 (be8 fun i => bb (12 + (8 + i)) : Nat))).set 4 (.pointer (some p6))).set 5 (.int .u64 (be8 fun i => bb (28 + i) : Nat))).set 6 (.int .u64 (be8 fun i => bb (28 + (8 + i)) : Nat))).set 7 (.pointer (some p6))).drew
  have hk8 := ((((((((HF7.out.kept.set (k := 0) (.inl (.inl rfl)) (.int .u32 (be4 bb : Nat))).set (k := 1) (.inl (.inl rfl)) (.int .u32 (be4 fun i => bb (4 + i) : Nat))).set (k := 2) (.inl (.inl rfl)) (.int .u64 (be8 fun i => bb (12 + i) : Nat))).set (k := 3) (.inl (.inl rfl)) (.int .u64 (be8 fun i => bb (12 + (8 + i)) : Nat))).set (k := 4) (.inl (.inl rfl)) (.pointer (some p6))).set (k := 5) (.inl (.inl rfl)) (.int .u64 (be8 fun i => bb (28 + i) : Nat))).set (k := 6) (.inl (.inl rfl)) (.int .u64 (be8 fun i => bb (28 + (8 + i)) : Nat))).set (k := 7) (.inl (.inl rfl)) (.pointer (some p6))).drew
  have HB8 := Hid.mk' hb8
  have HK8 := Hid.mk' hk8
  clear hb8 hk8
  have m8 : (32 : Int) ≤ ((n - 12 : Nat) : Int) := by omega
  by_cases h20 : cap - 12 = 32
  · go_region
    go_wp2
    refine bodyPost_ret (v := .tuple #[.agg #[.int .u32 (be4 bb : Nat), .int .u32 (be4 fun i => bb (4 + i) : Nat), .int .u64 (be8 fun i => bb (12 + i) : Nat), .int .u64 (be8 fun i => bb (12 + (8 + i)) : Nat), .pointer (some p6), .int .u64 (be8 fun i => bb (28 + i) : Nat), .int .u64 (be8 fun i => bb (28 + (8 + i)) : Nat), .pointer (some p6)], .slice (some ⟨g, off + 12, none⟩) (n - 12 - 32) (cap - 12 - 32), .nilIface]) (by simp [results, Tryf.results18, go_sem, HB8.out.cell, h20]) rfl ?_
    exact ⟨_, rfl, .inr (by omega), HK8.out.below (Nat.le_refl _) (fun i q => by rcases q with q | q <;> omega)⟩
  · go_region
    go_wp2
    refine bodyPost_ret (v := .tuple #[.agg #[.int .u32 (be4 bb : Nat), .int .u32 (be4 fun i => bb (4 + i) : Nat), .int .u64 (be8 fun i => bb (12 + i) : Nat), .int .u64 (be8 fun i => bb (12 + (8 + i)) : Nat), .pointer (some p6), .int .u64 (be8 fun i => bb (28 + i) : Nat), .int .u64 (be8 fun i => bb (28 + (8 + i)) : Nat), .pointer (some p6)], .slice (some ⟨g, off + 12 + 32, none⟩) (n - 12 - 32) (cap - 12 - 32), .nilIface]) (by simp [results, Tryf.results18, go_sem, HB8.out.cell]) rfl ?_
    exact ⟨_, rfl, .inl rfl, HK8.out.below (Nat.le_refl _) (fun i q => by rcases q with q | q <;> omega)⟩


end Go.Proofs.Qxb6003778aFmt
