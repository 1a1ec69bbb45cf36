import Derived.Test.Qxb6003778aFmtAnG
namespace Go.Proofs.Qxb6003778aFmt
open Go.RowKit
set_option linter.unusedVariables false
set_option linter.unusedSimpArgs false

abbrev Z11 : Array Value := #[.int .u32 0, .int .u32 0, .int .u64 0, .int .u64 0, .pointer none, .int .u64 0, .int .u64 0, .pointer none, .bool false, .bool false, .slice none 0 0]

theorem boxed2 {w w1 : World} {T U : TypeId} {xs ys : Array Value} (h : Below ((w.alloc (.cells xs T)).alloc (.cells ys U)).heap.size ((w.alloc (.cells xs T)).alloc (.cells ys U)) w1) :
    Blk w1 (w.heap.size + 1) U ys ∧ Blk w1 w.heap.size T xs ∧ Kept w w1 (fun i => i = w.heap.size ∨ i = w.heap.size + 1) := by
  obtain ⟨h1, h2⟩ := boxed h
  refine ⟨h1, ?_, h2.mono (fun _ _ q => .inr q)⟩
  have e : Blk ((w.alloc (.cells xs T)).alloc (.cells ys U)) w.heap.size T xs := (Blk.new w T xs).kept ((Kept.refl _ (fun _ => False)).alloc _) (fun h => h)
  exact (h.block _ e.lt).trans e

set_option maxRecDepth 100000 in
set_option maxHeartbeats 4000000 in
theorem message_1 (rb : Nat) (ts : Int) (bs : Value) (A B H1 L1 H2 L2 : Int) (z1 z2 : Option Addr) (g m c : Nat) (Q : Nat → Prop) (w : World) (hB : Blk w rb 40 (recOf ts 1 bs))
    (hP : ∀ w', Below w.heap.size w w' → Calls Tryf.prog 18 #[.pointer (some ⟨rb, 0, none⟩), .bool false, .string ⟨#[109, 101, 115, 115, 97, 103, 101]⟩] w' fun e w'' => ∃ x, e = .returned (.tuple #[.agg #[.int .u32 A, .int .u32 B, .int .u64 H1, .int .u64 L1, .pointer z1, .int .u64 H2, .int .u64 L2, .pointer z2], .slice (some ⟨g, x, none⟩) m c, .nilIface]) ∧ Q x ∧ Below w'.heap.size w' w'') :
    Calls Tryf.prog 7 #[.pointer (some ⟨rb, 0, none⟩)] w fun e w' => ∃ x, e = .returned (.tuple #[.agg #[.int .u32 A, .int .u32 B, .int .u64 H1, .int .u64 L1, .pointer z1, .int .u64 H2, .int .u64 L2, .pointer z2, .bool false, .bool false, .slice (some ⟨g, x, none⟩) m c], .nilIface]) ∧ Q x ∧ Below w.heap.size w w' := by
  have HBL : Hid (Blk w rb 40 (recOf ts 1 bs)) := hB
  have HP : Hid (∀ w', Below w.heap.size w w' → Calls Tryf.prog 18 #[.pointer (some ⟨rb, 0, none⟩), .bool false, .string ⟨#[109, 101, 115, 115, 97, 103, 101]⟩] w' fun e w'' => ∃ x, e = .returned (.tuple #[.agg #[.int .u32 A, .int .u32 B, .int .u64 H1, .int .u64 L1, .pointer z1, .int .u64 H2, .int .u64 L2, .pointer z2], .slice (some ⟨g, x, none⟩) m c, .nilIface]) ∧ Q x ∧ Below w'.heap.size w' w'') := hP
  have rl := hB.lt
  have s2 : ∀ a, (w.alloc a).cell? ⟨rb, 2, none⟩ = some (.int .u16 1) := fun a => cell_later ((Below.refl _ _).alloc (Nat.le_refl _) a) (hB.cell 2)
  have t2 : ∀ a b, ((w.alloc a).alloc b).cell? ⟨rb, 2, none⟩ = some (.int .u16 1) := fun a b => cell_later ((Below.refl _ _).alloc (Nat.le_refl _) b) (s2 a)
  clear hB hP
  go_enter Tryf.func7, Tryf.ntmps7
  go_wp2_with (first
    | (go_at_call 17; go_must (refine (isMsg_any rb ts 1 bs _ (by exact (HBL.out.kept ((Kept.refl _ (fun _ => False)).alloc _) (fun h => h))) (by decide)).mono ?_); rintro e w1 ⟨rfl, rfl⟩)
    | (go_at_call 18; go_must (refine (HP.out _ (by exact ((((Below.refl _ _).alloc (Nat.le_refl _) _).alloc (by simp) _)))).mono ?_); rintro e w2 ⟨x, rfl, hq', hb2'⟩; have HQ : Hid (Q x) := hq'; clear hq')
    | fail)
  obtain ⟨hM0, hR0, hK0⟩ := boxed2 hb2'
  obtain ⟨P, hPd⟩ : ∃ P, P = w2.heap.size := ⟨_, rfl⟩
  have hPs : w.heap.size + 2 ≤ P := by rw [hPd]; have := hb2'.size; simpa using this
  obtain ⟨W3, hW3⟩ : ∃ W3, W3 = w2.alloc (.cells #[.int .u32 A, .int .u32 B, .int .u64 H1, .int .u64 L1, .pointer z1, .int .u64 H2, .int .u64 L2, .pointer z2] 62) := ⟨_, rfl⟩
  have al : Kept w2 W3 (fun _ => False) := by rw [hW3]; exact (Kept.refl _ _).alloc _
  have HM : Hid (Blk W3 (w.heap.size + 1) 36 #[.int .u32 0, .int .u32 0, .int .u64 0, .int .u64 0, .pointer none, .int .u64 0, .int .u64 0, .pointer none, .bool false, .bool false, .slice none 0 0]) := hM0.kept al (fun h => h)
  have HR : Hid (Blk W3 w.heap.size 36 Z11) := hR0.kept al (fun h => h)
  have HK : Hid (Kept w W3 (fun i => i = w.heap.size ∨ i = w.heap.size + 1)) := hK0.next al (fun _ _ h => h.elim)
  have hPb : Blk W3 P 62 #[.int .u32 A, .int .u32 B, .int .u64 H1, .int .u64 L1, .pointer z1, .int .u64 H2, .int .u64 L2, .pointer z2] := by rw [hW3, hPd]; exact Blk.new _ _ _
  rw [← hW3, ← hPd]
  clear hM0 hR0 hK0 hb2' hW3 hPd al s2 t2 HBL HP
  have p0 : W3.cell? ⟨P, 0, none⟩ = some (.int .u32 A) := hPb.cell 0
  have p1 : W3.cell? ⟨P, 1, none⟩ = some (.int .u32 B) := hPb.cell 1
  have p2 : W3.cell? ⟨P, 2, none⟩ = some (.int .u64 H1) := hPb.cell 2
  have p3 : W3.cell? ⟨P, 3, none⟩ = some (.int .u64 L1) := hPb.cell 3
  have p4 : W3.cell? ⟨P, 4, none⟩ = some (.pointer z1) := hPb.cell 4
  have p5 : W3.cell? ⟨P, 5, none⟩ = some (.int .u64 H2) := hPb.cell 5
  have p6 : W3.cell? ⟨P, 6, none⟩ = some (.int .u64 L2) := hPb.cell 6
  have p7 : W3.cell? ⟨P, 7, none⟩ = some (.pointer z2) := hPb.cell 7
  have m0 : W3.cell? ⟨w.heap.size + 1, 0, none⟩ = some (.int .u32 0) := HM.out.cell 0
  have m1 : W3.cell? ⟨w.heap.size + 1, 1, none⟩ = some (.int .u32 0) := HM.out.cell 1
  have m2 : W3.cell? ⟨w.heap.size + 1, 2, none⟩ = some (.int .u64 0) := HM.out.cell 2
  have m3 : W3.cell? ⟨w.heap.size + 1, 3, none⟩ = some (.int .u64 0) := HM.out.cell 3
  have m4 : W3.cell? ⟨w.heap.size + 1, 4, none⟩ = some (.pointer none) := HM.out.cell 4
  have m5 : W3.cell? ⟨w.heap.size + 1, 5, none⟩ = some (.int .u64 0) := HM.out.cell 5
  have m6 : W3.cell? ⟨w.heap.size + 1, 6, none⟩ = some (.int .u64 0) := HM.out.cell 6
  have m7 : W3.cell? ⟨w.heap.size + 1, 7, none⟩ = some (.pointer none) := HM.out.cell 7
  have m8 : W3.cell? ⟨w.heap.size + 1, 8, none⟩ = some (.bool false) := HM.out.cell 8
  have m9 : W3.cell? ⟨w.heap.size + 1, 9, none⟩ = some (.bool false) := HM.out.cell 9
  have m10 : W3.cell? ⟨w.heap.size + 1, 10, none⟩ = some (.slice none 0 0) := HM.out.cell 10
  have f1 := HM.out.frozen
  have n1 : ¬ P = w.heap.size + 1 := by omega
  have n2 : ¬ w.heap.size + 1 = P := by omega
  clear hPb
  go_region_held3 (fun w' => w'.cell? ⟨P, 0, none⟩ = some (.int .u32 A) ∧ w'.cell? ⟨P, 1, none⟩ = some (.int .u32 B) ∧ w'.cell? ⟨P, 2, none⟩ = some (.int .u64 H1) ∧ w'.cell? ⟨P, 3, none⟩ = some (.int .u64 L1) ∧ w'.cell? ⟨P, 4, none⟩ = some (.pointer z1) ∧ w'.cell? ⟨P, 5, none⟩ = some (.int .u64 H2) ∧ w'.cell? ⟨P, 6, none⟩ = some (.int .u64 L2) ∧ w'.cell? ⟨P, 7, none⟩ = some (.pointer z2)) ((first | go_keep)) (fail)
  obtain ⟨W4, hW4⟩ : ∃ W4, W4 = ((((((((W3.setCell ⟨w.heap.size + 1, 0, none⟩ (.int .u32 A)).setCell ⟨w.heap.size + 1, 1, none⟩ (.int .u32 B)).setCell ⟨w.heap.size + 1, 2, none⟩ (.int .u64 H1)).setCell ⟨w.heap.size + 1, 3, none⟩ (.int .u64 L1)).setCell ⟨w.heap.size + 1, 4, none⟩ (.pointer z1)).setCell ⟨w.heap.size + 1, 5, none⟩ (.int .u64 H2)).setCell ⟨w.heap.size + 1, 6, none⟩ (.int .u64 L2)).setCell ⟨w.heap.size + 1, 7, none⟩ (.pointer z2)).drew := ⟨_, rfl⟩
  have HM4 : Hid (Blk W4 (w.heap.size + 1) 36 #[.int .u32 A, .int .u32 B, .int .u64 H1, .int .u64 L1, .pointer z1, .int .u64 H2, .int .u64 L2, .pointer z2, .bool false, .bool false, .slice none 0 0]) := by rw [Hid, hW4]; exact ((((((((HM.out.set 0 (.int .u32 A)).set 1 (.int .u32 B)).set 2 (.int .u64 H1)).set 3 (.int .u64 L1)).set 4 (.pointer z1)).set 5 (.int .u64 H2)).set 6 (.int .u64 L2)).set 7 (.pointer z2)).drew
  have HR4 : Hid (Blk W4 w.heap.size 36 Z11) := by rw [Hid, hW4]; exact (HR.out.kept (((((((((Kept.refl W3 (fun i => i = w.heap.size + 1)).set (.inl rfl) _).set (.inl rfl) _).set (.inl rfl) _).set (.inl rfl) _).set (.inl rfl) _).set (.inl rfl) _).set (.inl rfl) _).set (.inl rfl) _) (by show ¬ w.heap.size = w.heap.size + 1; omega)).drew
  have HK4 : Hid (Kept w W4 (fun i => i = w.heap.size ∨ i = w.heap.size + 1)) := by rw [Hid, hW4]; exact ((((((((HK.out.set (k := 0) (.inl (.inr rfl)) (.int .u32 A)).set (k := 1) (.inl (.inr rfl)) (.int .u32 B)).set (k := 2) (.inl (.inr rfl)) (.int .u64 H1)).set (k := 3) (.inl (.inr rfl)) (.int .u64 L1)).set (k := 4) (.inl (.inr rfl)) (.pointer z1)).set (k := 5) (.inl (.inr rfl)) (.int .u64 H2)).set (k := 6) (.inl (.inr rfl)) (.int .u64 L2)).set (k := 7) (.inl (.inr rfl)) (.pointer z2)).drew
  rw [← hW4]
  clear hW4 HM HR HK f1 p0 p1 p2 p3 p4 p5 p6 p7 m0 m1 m2 m3 m4 m5 m6 m7 m8 m9 m10
  have m0 : W4.cell? ⟨w.heap.size + 1, 0, none⟩ = some (.int .u32 A) := HM4.out.cell 0
  have m1 : W4.cell? ⟨w.heap.size + 1, 1, none⟩ = some (.int .u32 B) := HM4.out.cell 1
  have m2 : W4.cell? ⟨w.heap.size + 1, 2, none⟩ = some (.int .u64 H1) := HM4.out.cell 2
  have m3 : W4.cell? ⟨w.heap.size + 1, 3, none⟩ = some (.int .u64 L1) := HM4.out.cell 3
  have m4 : W4.cell? ⟨w.heap.size + 1, 4, none⟩ = some (.pointer z1) := HM4.out.cell 4
  have m5 : W4.cell? ⟨w.heap.size + 1, 5, none⟩ = some (.int .u64 H2) := HM4.out.cell 5
  have m6 : W4.cell? ⟨w.heap.size + 1, 6, none⟩ = some (.int .u64 L2) := HM4.out.cell 6
  have m7 : W4.cell? ⟨w.heap.size + 1, 7, none⟩ = some (.pointer z2) := HM4.out.cell 7
  have m8 : W4.cell? ⟨w.heap.size + 1, 8, none⟩ = some (.bool false) := HM4.out.cell 8
  have m9 : W4.cell? ⟨w.heap.size + 1, 9, none⟩ = some (.bool false) := HM4.out.cell 9
  have m10 : W4.cell? ⟨w.heap.size + 1, 10, none⟩ = some (.slice none 0 0) := HM4.out.cell 10
  have r0 : W4.cell? ⟨w.heap.size, 0, none⟩ = some (.int .u32 0) := HR4.out.cell 0
  have r1 : W4.cell? ⟨w.heap.size, 1, none⟩ = some (.int .u32 0) := HR4.out.cell 1
  have r2 : W4.cell? ⟨w.heap.size, 2, none⟩ = some (.int .u64 0) := HR4.out.cell 2
  have r3 : W4.cell? ⟨w.heap.size, 3, none⟩ = some (.int .u64 0) := HR4.out.cell 3
  have r4 : W4.cell? ⟨w.heap.size, 4, none⟩ = some (.pointer none) := HR4.out.cell 4
  have r5 : W4.cell? ⟨w.heap.size, 5, none⟩ = some (.int .u64 0) := HR4.out.cell 5
  have r6 : W4.cell? ⟨w.heap.size, 6, none⟩ = some (.int .u64 0) := HR4.out.cell 6
  have r7 : W4.cell? ⟨w.heap.size, 7, none⟩ = some (.pointer none) := HR4.out.cell 7
  have r8 : W4.cell? ⟨w.heap.size, 8, none⟩ = some (.bool false) := HR4.out.cell 8
  have r9 : W4.cell? ⟨w.heap.size, 9, none⟩ = some (.bool false) := HR4.out.cell 9
  have r10 : W4.cell? ⟨w.heap.size, 10, none⟩ = some (.slice none 0 0) := HR4.out.cell 10
  have f1 := HM4.out.frozen
  have f2 := HR4.out.frozen
  have HB8 := Hid.mk' ((((((((((((HR4.out.kept ((Kept.refl W4 (fun i => i = w.heap.size + 1)).set (k := 10) (.inl rfl) (.slice (some ⟨g, x, none⟩) m c)) (by show ¬ w.heap.size = w.heap.size + 1; omega)).set 0 (.int .u32 A)).set 1 (.int .u32 B)).set 2 (.int .u64 H1)).set 3 (.int .u64 L1)).set 4 (.pointer z1)).set 5 (.int .u64 H2)).set 6 (.int .u64 L2)).set 7 (.pointer z2)).set 8 (.bool false)).set 9 (.bool false)).set 10 (.slice (some ⟨g, x, none⟩) m c))
  have HK8 := Hid.mk' ((((((((((((HK4.out.set (k := 10) (.inl (.inr rfl)) (.slice (some ⟨g, x, none⟩) m c)).set (k := 0) (.inl (.inl rfl)) (.int .u32 A)).set (k := 1) (.inl (.inl rfl)) (.int .u32 B)).set (k := 2) (.inl (.inl rfl)) (.int .u64 H1)).set (k := 3) (.inl (.inl rfl)) (.int .u64 L1)).set (k := 4) (.inl (.inl rfl)) (.pointer z1)).set (k := 5) (.inl (.inl rfl)) (.int .u64 H2)).set (k := 6) (.inl (.inl rfl)) (.int .u64 L2)).set (k := 7) (.inl (.inl rfl)) (.pointer z2)).set (k := 8) (.inl (.inl rfl)) (.bool false)).set (k := 9) (.inl (.inl rfl)) (.bool false)).set (k := 10) (.inl (.inl rfl)) (.slice (some ⟨g, x, none⟩) m c))
  go_wp2
  refine bodyPost_ret (v := .tuple #[.agg #[.int .u32 A, .int .u32 B, .int .u64 H1, .int .u64 L1, .pointer z1, .int .u64 H2, .int .u64 L2, .pointer z2, .bool false, .bool false, .slice (some ⟨g, x, none⟩) m c], .nilIface]) (by simp [results, Tryf.results7, go_sem, HB8.out.cell]) rfl ?_
  exact ⟨_, rfl, HQ.out, HK8.out.below (Nat.le_refl _) (fun i q => by rcases q with q | q <;> omega)⟩

set_option maxRecDepth 100000 in
set_option maxHeartbeats 4000000 in
theorem message_4 (rb : Nat) (ts : Int) (bs : Value) (A B H1 L1 H2 L2 : Int) (z1 z2 : Option Addr) (g m c : Nat) (Q : Nat → Prop) (w : World) (hB : Blk w rb 40 (recOf ts 4 bs))
    (hP : ∀ w', Below w.heap.size w w' → Calls Tryf.prog 18 #[.pointer (some ⟨rb, 0, none⟩), .bool true, .string ⟨#[109, 101, 115, 115, 97, 103, 101]⟩] w' fun e w'' => ∃ x, e = .returned (.tuple #[.agg #[.int .u32 A, .int .u32 B, .int .u64 H1, .int .u64 L1, .pointer z1, .int .u64 H2, .int .u64 L2, .pointer z2], .slice (some ⟨g, x, none⟩) m c, .nilIface]) ∧ Q x ∧ Below w'.heap.size w' w'') :
    Calls Tryf.prog 7 #[.pointer (some ⟨rb, 0, none⟩)] w fun e w' => ∃ x, e = .returned (.tuple #[.agg #[.int .u32 A, .int .u32 B, .int .u64 H1, .int .u64 L1, .pointer z1, .int .u64 H2, .int .u64 L2, .pointer z2, .bool false, .bool true, .slice (some ⟨g, x, none⟩) m c], .nilIface]) ∧ Q x ∧ Below w.heap.size w w' := by
  have HBL : Hid (Blk w rb 40 (recOf ts 4 bs)) := hB
  have HP : Hid (∀ w', Below w.heap.size w w' → Calls Tryf.prog 18 #[.pointer (some ⟨rb, 0, none⟩), .bool true, .string ⟨#[109, 101, 115, 115, 97, 103, 101]⟩] w' fun e w'' => ∃ x, e = .returned (.tuple #[.agg #[.int .u32 A, .int .u32 B, .int .u64 H1, .int .u64 L1, .pointer z1, .int .u64 H2, .int .u64 L2, .pointer z2], .slice (some ⟨g, x, none⟩) m c, .nilIface]) ∧ Q x ∧ Below w'.heap.size w' w'') := hP
  have rl := hB.lt
  have s2 : ∀ a, (w.alloc a).cell? ⟨rb, 2, none⟩ = some (.int .u16 4) := fun a => cell_later ((Below.refl _ _).alloc (Nat.le_refl _) a) (hB.cell 2)
  have t2 : ∀ a b, ((w.alloc a).alloc b).cell? ⟨rb, 2, none⟩ = some (.int .u16 4) := fun a b => cell_later ((Below.refl _ _).alloc (Nat.le_refl _) b) (s2 a)
  clear hB hP
  go_enter Tryf.func7, Tryf.ntmps7
  go_wp2_with (first
    | (go_at_call 17; go_must (refine (isMsg_any rb ts 4 bs _ (by exact (HBL.out.kept ((Kept.refl _ (fun _ => False)).alloc _) (fun h => h))) (by decide)).mono ?_); rintro e w1 ⟨rfl, rfl⟩)
    | (go_at_call 18; go_must (refine (HP.out _ (by exact ((((Below.refl _ _).alloc (Nat.le_refl _) _).alloc (by simp) _)))).mono ?_); rintro e w2 ⟨x, rfl, hq', hb2'⟩; have HQ : Hid (Q x) := hq'; clear hq')
    | fail)
  obtain ⟨hM0, hR0, hK0⟩ := boxed2 hb2'
  obtain ⟨P, hPd⟩ : ∃ P, P = w2.heap.size := ⟨_, rfl⟩
  have hPs : w.heap.size + 2 ≤ P := by rw [hPd]; have := hb2'.size; simpa using this
  obtain ⟨W3, hW3⟩ : ∃ W3, W3 = w2.alloc (.cells #[.int .u32 A, .int .u32 B, .int .u64 H1, .int .u64 L1, .pointer z1, .int .u64 H2, .int .u64 L2, .pointer z2] 62) := ⟨_, rfl⟩
  have al : Kept w2 W3 (fun _ => False) := by rw [hW3]; exact (Kept.refl _ _).alloc _
  have HM : Hid (Blk W3 (w.heap.size + 1) 36 #[.int .u32 0, .int .u32 0, .int .u64 0, .int .u64 0, .pointer none, .int .u64 0, .int .u64 0, .pointer none, .bool false, .bool true, .slice none 0 0]) := hM0.kept al (fun h => h)
  have HR : Hid (Blk W3 w.heap.size 36 Z11) := hR0.kept al (fun h => h)
  have HK : Hid (Kept w W3 (fun i => i = w.heap.size ∨ i = w.heap.size + 1)) := hK0.next al (fun _ _ h => h.elim)
  have hPb : Blk W3 P 62 #[.int .u32 A, .int .u32 B, .int .u64 H1, .int .u64 L1, .pointer z1, .int .u64 H2, .int .u64 L2, .pointer z2] := by rw [hW3, hPd]; exact Blk.new _ _ _
  rw [← hW3, ← hPd]
  clear hM0 hR0 hK0 hb2' hW3 hPd al s2 t2 HBL HP
  have p0 : W3.cell? ⟨P, 0, none⟩ = some (.int .u32 A) := hPb.cell 0
  have p1 : W3.cell? ⟨P, 1, none⟩ = some (.int .u32 B) := hPb.cell 1
  have p2 : W3.cell? ⟨P, 2, none⟩ = some (.int .u64 H1) := hPb.cell 2
  have p3 : W3.cell? ⟨P, 3, none⟩ = some (.int .u64 L1) := hPb.cell 3
  have p4 : W3.cell? ⟨P, 4, none⟩ = some (.pointer z1) := hPb.cell 4
  have p5 : W3.cell? ⟨P, 5, none⟩ = some (.int .u64 H2) := hPb.cell 5
  have p6 : W3.cell? ⟨P, 6, none⟩ = some (.int .u64 L2) := hPb.cell 6
  have p7 : W3.cell? ⟨P, 7, none⟩ = some (.pointer z2) := hPb.cell 7
  have m0 : W3.cell? ⟨w.heap.size + 1, 0, none⟩ = some (.int .u32 0) := HM.out.cell 0
  have m1 : W3.cell? ⟨w.heap.size + 1, 1, none⟩ = some (.int .u32 0) := HM.out.cell 1
  have m2 : W3.cell? ⟨w.heap.size + 1, 2, none⟩ = some (.int .u64 0) := HM.out.cell 2
  have m3 : W3.cell? ⟨w.heap.size + 1, 3, none⟩ = some (.int .u64 0) := HM.out.cell 3
  have m4 : W3.cell? ⟨w.heap.size + 1, 4, none⟩ = some (.pointer none) := HM.out.cell 4
  have m5 : W3.cell? ⟨w.heap.size + 1, 5, none⟩ = some (.int .u64 0) := HM.out.cell 5
  have m6 : W3.cell? ⟨w.heap.size + 1, 6, none⟩ = some (.int .u64 0) := HM.out.cell 6
  have m7 : W3.cell? ⟨w.heap.size + 1, 7, none⟩ = some (.pointer none) := HM.out.cell 7
  have m8 : W3.cell? ⟨w.heap.size + 1, 8, none⟩ = some (.bool false) := HM.out.cell 8
  have m9 : W3.cell? ⟨w.heap.size + 1, 9, none⟩ = some (.bool true) := HM.out.cell 9
  have m10 : W3.cell? ⟨w.heap.size + 1, 10, none⟩ = some (.slice none 0 0) := HM.out.cell 10
  have f1 := HM.out.frozen
  have n1 : ¬ P = w.heap.size + 1 := by omega
  have n2 : ¬ w.heap.size + 1 = P := by omega
  clear hPb
  go_region_held3 (fun w' => w'.cell? ⟨P, 0, none⟩ = some (.int .u32 A) ∧ w'.cell? ⟨P, 1, none⟩ = some (.int .u32 B) ∧ w'.cell? ⟨P, 2, none⟩ = some (.int .u64 H1) ∧ w'.cell? ⟨P, 3, none⟩ = some (.int .u64 L1) ∧ w'.cell? ⟨P, 4, none⟩ = some (.pointer z1) ∧ w'.cell? ⟨P, 5, none⟩ = some (.int .u64 H2) ∧ w'.cell? ⟨P, 6, none⟩ = some (.int .u64 L2) ∧ w'.cell? ⟨P, 7, none⟩ = some (.pointer z2)) ((first | go_keep)) (fail)
  obtain ⟨W4, hW4⟩ : ∃ W4, W4 = ((((((((W3.setCell ⟨w.heap.size + 1, 0, none⟩ (.int .u32 A)).setCell ⟨w.heap.size + 1, 1, none⟩ (.int .u32 B)).setCell ⟨w.heap.size + 1, 2, none⟩ (.int .u64 H1)).setCell ⟨w.heap.size + 1, 3, none⟩ (.int .u64 L1)).setCell ⟨w.heap.size + 1, 4, none⟩ (.pointer z1)).setCell ⟨w.heap.size + 1, 5, none⟩ (.int .u64 H2)).setCell ⟨w.heap.size + 1, 6, none⟩ (.int .u64 L2)).setCell ⟨w.heap.size + 1, 7, none⟩ (.pointer z2)).drew := ⟨_, rfl⟩
  have HM4 : Hid (Blk W4 (w.heap.size + 1) 36 #[.int .u32 A, .int .u32 B, .int .u64 H1, .int .u64 L1, .pointer z1, .int .u64 H2, .int .u64 L2, .pointer z2, .bool false, .bool true, .slice none 0 0]) := by rw [Hid, hW4]; exact ((((((((HM.out.set 0 (.int .u32 A)).set 1 (.int .u32 B)).set 2 (.int .u64 H1)).set 3 (.int .u64 L1)).set 4 (.pointer z1)).set 5 (.int .u64 H2)).set 6 (.int .u64 L2)).set 7 (.pointer z2)).drew
  have HR4 : Hid (Blk W4 w.heap.size 36 Z11) := by rw [Hid, hW4]; exact (HR.out.kept (((((((((Kept.refl W3 (fun i => i = w.heap.size + 1)).set (.inl rfl) _).set (.inl rfl) _).set (.inl rfl) _).set (.inl rfl) _).set (.inl rfl) _).set (.inl rfl) _).set (.inl rfl) _).set (.inl rfl) _) (by show ¬ w.heap.size = w.heap.size + 1; omega)).drew
  have HK4 : Hid (Kept w W4 (fun i => i = w.heap.size ∨ i = w.heap.size + 1)) := by rw [Hid, hW4]; exact ((((((((HK.out.set (k := 0) (.inl (.inr rfl)) (.int .u32 A)).set (k := 1) (.inl (.inr rfl)) (.int .u32 B)).set (k := 2) (.inl (.inr rfl)) (.int .u64 H1)).set (k := 3) (.inl (.inr rfl)) (.int .u64 L1)).set (k := 4) (.inl (.inr rfl)) (.pointer z1)).set (k := 5) (.inl (.inr rfl)) (.int .u64 H2)).set (k := 6) (.inl (.inr rfl)) (.int .u64 L2)).set (k := 7) (.inl (.inr rfl)) (.pointer z2)).drew
  rw [← hW4]
  clear hW4 HM HR HK f1 p0 p1 p2 p3 p4 p5 p6 p7 m0 m1 m2 m3 m4 m5 m6 m7 m8 m9 m10
  have m0 : W4.cell? ⟨w.heap.size + 1, 0, none⟩ = some (.int .u32 A) := HM4.out.cell 0
  have m1 : W4.cell? ⟨w.heap.size + 1, 1, none⟩ = some (.int .u32 B) := HM4.out.cell 1
  have m2 : W4.cell? ⟨w.heap.size + 1, 2, none⟩ = some (.int .u64 H1) := HM4.out.cell 2
  have m3 : W4.cell? ⟨w.heap.size + 1, 3, none⟩ = some (.int .u64 L1) := HM4.out.cell 3
  have m4 : W4.cell? ⟨w.heap.size + 1, 4, none⟩ = some (.pointer z1) := HM4.out.cell 4
  have m5 : W4.cell? ⟨w.heap.size + 1, 5, none⟩ = some (.int .u64 H2) := HM4.out.cell 5
  have m6 : W4.cell? ⟨w.heap.size + 1, 6, none⟩ = some (.int .u64 L2) := HM4.out.cell 6
  have m7 : W4.cell? ⟨w.heap.size + 1, 7, none⟩ = some (.pointer z2) := HM4.out.cell 7
  have m8 : W4.cell? ⟨w.heap.size + 1, 8, none⟩ = some (.bool false) := HM4.out.cell 8
  have m9 : W4.cell? ⟨w.heap.size + 1, 9, none⟩ = some (.bool true) := HM4.out.cell 9
  have m10 : W4.cell? ⟨w.heap.size + 1, 10, none⟩ = some (.slice none 0 0) := HM4.out.cell 10
  have r0 : W4.cell? ⟨w.heap.size, 0, none⟩ = some (.int .u32 0) := HR4.out.cell 0
  have r1 : W4.cell? ⟨w.heap.size, 1, none⟩ = some (.int .u32 0) := HR4.out.cell 1
  have r2 : W4.cell? ⟨w.heap.size, 2, none⟩ = some (.int .u64 0) := HR4.out.cell 2
  have r3 : W4.cell? ⟨w.heap.size, 3, none⟩ = some (.int .u64 0) := HR4.out.cell 3
  have r4 : W4.cell? ⟨w.heap.size, 4, none⟩ = some (.pointer none) := HR4.out.cell 4
  have r5 : W4.cell? ⟨w.heap.size, 5, none⟩ = some (.int .u64 0) := HR4.out.cell 5
  have r6 : W4.cell? ⟨w.heap.size, 6, none⟩ = some (.int .u64 0) := HR4.out.cell 6
  have r7 : W4.cell? ⟨w.heap.size, 7, none⟩ = some (.pointer none) := HR4.out.cell 7
  have r8 : W4.cell? ⟨w.heap.size, 8, none⟩ = some (.bool false) := HR4.out.cell 8
  have r9 : W4.cell? ⟨w.heap.size, 9, none⟩ = some (.bool false) := HR4.out.cell 9
  have r10 : W4.cell? ⟨w.heap.size, 10, none⟩ = some (.slice none 0 0) := HR4.out.cell 10
  have f1 := HM4.out.frozen
  have f2 := HR4.out.frozen
  have HB8 := Hid.mk' ((((((((((((HR4.out.kept ((Kept.refl W4 (fun i => i = w.heap.size + 1)).set (k := 10) (.inl rfl) (.slice (some ⟨g, x, none⟩) m c)) (by show ¬ w.heap.size = w.heap.size + 1; omega)).set 0 (.int .u32 A)).set 1 (.int .u32 B)).set 2 (.int .u64 H1)).set 3 (.int .u64 L1)).set 4 (.pointer z1)).set 5 (.int .u64 H2)).set 6 (.int .u64 L2)).set 7 (.pointer z2)).set 8 (.bool false)).set 9 (.bool true)).set 10 (.slice (some ⟨g, x, none⟩) m c))
  have HK8 := Hid.mk' ((((((((((((HK4.out.set (k := 10) (.inl (.inr rfl)) (.slice (some ⟨g, x, none⟩) m c)).set (k := 0) (.inl (.inl rfl)) (.int .u32 A)).set (k := 1) (.inl (.inl rfl)) (.int .u32 B)).set (k := 2) (.inl (.inl rfl)) (.int .u64 H1)).set (k := 3) (.inl (.inl rfl)) (.int .u64 L1)).set (k := 4) (.inl (.inl rfl)) (.pointer z1)).set (k := 5) (.inl (.inl rfl)) (.int .u64 H2)).set (k := 6) (.inl (.inl rfl)) (.int .u64 L2)).set (k := 7) (.inl (.inl rfl)) (.pointer z2)).set (k := 8) (.inl (.inl rfl)) (.bool false)).set (k := 9) (.inl (.inl rfl)) (.bool true)).set (k := 10) (.inl (.inl rfl)) (.slice (some ⟨g, x, none⟩) m c))
  go_wp2
  refine bodyPost_ret (v := .tuple #[.agg #[.int .u32 A, .int .u32 B, .int .u64 H1, .int .u64 L1, .pointer z1, .int .u64 H2, .int .u64 L2, .pointer z2, .bool false, .bool true, .slice (some ⟨g, x, none⟩) m c], .nilIface]) (by simp [results, Tryf.results7, go_sem, HB8.out.cell]) rfl ?_
  exact ⟨_, rfl, HQ.out, HK8.out.below (Nat.le_refl _) (fun i q => by rcases q with q | q <;> omega)⟩

set_option maxRecDepth 100000 in
set_option maxHeartbeats 4000000 in
theorem message_6 (rb : Nat) (ts : Int) (bs : Value) (A B H1 L1 H2 L2 : Int) (z1 z2 : Option Addr) (g m c : Nat) (Q : Nat → Prop) (w : World) (hB : Blk w rb 40 (recOf ts 6 bs))
    (hP : ∀ w', Below w.heap.size w w' → Calls Tryf.prog 18 #[.pointer (some ⟨rb, 0, none⟩), .bool false, .string ⟨#[109, 101, 115, 115, 97, 103, 101]⟩] w' fun e w'' => ∃ x, e = .returned (.tuple #[.agg #[.int .u32 A, .int .u32 B, .int .u64 H1, .int .u64 L1, .pointer z1, .int .u64 H2, .int .u64 L2, .pointer z2], .slice (some ⟨g, x, none⟩) m c, .nilIface]) ∧ Q x ∧ Below w'.heap.size w' w'') :
    Calls Tryf.prog 7 #[.pointer (some ⟨rb, 0, none⟩)] w fun e w' => ∃ x, e = .returned (.tuple #[.agg #[.int .u32 A, .int .u32 B, .int .u64 H1, .int .u64 L1, .pointer z1, .int .u64 H2, .int .u64 L2, .pointer z2, .bool true, .bool false, .slice (some ⟨g, x, none⟩) m c], .nilIface]) ∧ Q x ∧ Below w.heap.size w w' := by
  have HBL : Hid (Blk w rb 40 (recOf ts 6 bs)) := hB
  have HP : Hid (∀ w', Below w.heap.size w w' → Calls Tryf.prog 18 #[.pointer (some ⟨rb, 0, none⟩), .bool false, .string ⟨#[109, 101, 115, 115, 97, 103, 101]⟩] w' fun e w'' => ∃ x, e = .returned (.tuple #[.agg #[.int .u32 A, .int .u32 B, .int .u64 H1, .int .u64 L1, .pointer z1, .int .u64 H2, .int .u64 L2, .pointer z2], .slice (some ⟨g, x, none⟩) m c, .nilIface]) ∧ Q x ∧ Below w'.heap.size w' w'') := hP
  have rl := hB.lt
  have s2 : ∀ a, (w.alloc a).cell? ⟨rb, 2, none⟩ = some (.int .u16 6) := fun a => cell_later ((Below.refl _ _).alloc (Nat.le_refl _) a) (hB.cell 2)
  have t2 : ∀ a b, ((w.alloc a).alloc b).cell? ⟨rb, 2, none⟩ = some (.int .u16 6) := fun a b => cell_later ((Below.refl _ _).alloc (Nat.le_refl _) b) (s2 a)
  clear hB hP
  go_enter Tryf.func7, Tryf.ntmps7
  go_wp2_with (first
    | (go_at_call 17; go_must (refine (isMsg_any rb ts 6 bs _ (by exact (HBL.out.kept ((Kept.refl _ (fun _ => False)).alloc _) (fun h => h))) (by decide)).mono ?_); rintro e w1 ⟨rfl, rfl⟩)
    | (go_at_call 18; go_must (refine (HP.out _ (by exact ((((Below.refl _ _).alloc (Nat.le_refl _) _).alloc (by simp) _)))).mono ?_); rintro e w2 ⟨x, rfl, hq', hb2'⟩; have HQ : Hid (Q x) := hq'; clear hq')
    | fail)
  obtain ⟨hM0, hR0, hK0⟩ := boxed2 hb2'
  obtain ⟨P, hPd⟩ : ∃ P, P = w2.heap.size := ⟨_, rfl⟩
  have hPs : w.heap.size + 2 ≤ P := by rw [hPd]; have := hb2'.size; simpa using this
  obtain ⟨W3, hW3⟩ : ∃ W3, W3 = w2.alloc (.cells #[.int .u32 A, .int .u32 B, .int .u64 H1, .int .u64 L1, .pointer z1, .int .u64 H2, .int .u64 L2, .pointer z2] 62) := ⟨_, rfl⟩
  have al : Kept w2 W3 (fun _ => False) := by rw [hW3]; exact (Kept.refl _ _).alloc _
  have HM : Hid (Blk W3 (w.heap.size + 1) 36 #[.int .u32 0, .int .u32 0, .int .u64 0, .int .u64 0, .pointer none, .int .u64 0, .int .u64 0, .pointer none, .bool true, .bool false, .slice none 0 0]) := hM0.kept al (fun h => h)
  have HR : Hid (Blk W3 w.heap.size 36 Z11) := hR0.kept al (fun h => h)
  have HK : Hid (Kept w W3 (fun i => i = w.heap.size ∨ i = w.heap.size + 1)) := hK0.next al (fun _ _ h => h.elim)
  have hPb : Blk W3 P 62 #[.int .u32 A, .int .u32 B, .int .u64 H1, .int .u64 L1, .pointer z1, .int .u64 H2, .int .u64 L2, .pointer z2] := by rw [hW3, hPd]; exact Blk.new _ _ _
  rw [← hW3, ← hPd]
  clear hM0 hR0 hK0 hb2' hW3 hPd al s2 t2 HBL HP
  have p0 : W3.cell? ⟨P, 0, none⟩ = some (.int .u32 A) := hPb.cell 0
  have p1 : W3.cell? ⟨P, 1, none⟩ = some (.int .u32 B) := hPb.cell 1
  have p2 : W3.cell? ⟨P, 2, none⟩ = some (.int .u64 H1) := hPb.cell 2
  have p3 : W3.cell? ⟨P, 3, none⟩ = some (.int .u64 L1) := hPb.cell 3
  have p4 : W3.cell? ⟨P, 4, none⟩ = some (.pointer z1) := hPb.cell 4
  have p5 : W3.cell? ⟨P, 5, none⟩ = some (.int .u64 H2) := hPb.cell 5
  have p6 : W3.cell? ⟨P, 6, none⟩ = some (.int .u64 L2) := hPb.cell 6
  have p7 : W3.cell? ⟨P, 7, none⟩ = some (.pointer z2) := hPb.cell 7
  have m0 : W3.cell? ⟨w.heap.size + 1, 0, none⟩ = some (.int .u32 0) := HM.out.cell 0
  have m1 : W3.cell? ⟨w.heap.size + 1, 1, none⟩ = some (.int .u32 0) := HM.out.cell 1
  have m2 : W3.cell? ⟨w.heap.size + 1, 2, none⟩ = some (.int .u64 0) := HM.out.cell 2
  have m3 : W3.cell? ⟨w.heap.size + 1, 3, none⟩ = some (.int .u64 0) := HM.out.cell 3
  have m4 : W3.cell? ⟨w.heap.size + 1, 4, none⟩ = some (.pointer none) := HM.out.cell 4
  have m5 : W3.cell? ⟨w.heap.size + 1, 5, none⟩ = some (.int .u64 0) := HM.out.cell 5
  have m6 : W3.cell? ⟨w.heap.size + 1, 6, none⟩ = some (.int .u64 0) := HM.out.cell 6
  have m7 : W3.cell? ⟨w.heap.size + 1, 7, none⟩ = some (.pointer none) := HM.out.cell 7
  have m8 : W3.cell? ⟨w.heap.size + 1, 8, none⟩ = some (.bool true) := HM.out.cell 8
  have m9 : W3.cell? ⟨w.heap.size + 1, 9, none⟩ = some (.bool false) := HM.out.cell 9
  have m10 : W3.cell? ⟨w.heap.size + 1, 10, none⟩ = some (.slice none 0 0) := HM.out.cell 10
  have f1 := HM.out.frozen
  have n1 : ¬ P = w.heap.size + 1 := by omega
  have n2 : ¬ w.heap.size + 1 = P := by omega
  clear hPb
  go_region_held3 (fun w' => w'.cell? ⟨P, 0, none⟩ = some (.int .u32 A) ∧ w'.cell? ⟨P, 1, none⟩ = some (.int .u32 B) ∧ w'.cell? ⟨P, 2, none⟩ = some (.int .u64 H1) ∧ w'.cell? ⟨P, 3, none⟩ = some (.int .u64 L1) ∧ w'.cell? ⟨P, 4, none⟩ = some (.pointer z1) ∧ w'.cell? ⟨P, 5, none⟩ = some (.int .u64 H2) ∧ w'.cell? ⟨P, 6, none⟩ = some (.int .u64 L2) ∧ w'.cell? ⟨P, 7, none⟩ = some (.pointer z2)) ((first | go_keep)) (fail)
  obtain ⟨W4, hW4⟩ : ∃ W4, W4 = ((((((((W3.setCell ⟨w.heap.size + 1, 0, none⟩ (.int .u32 A)).setCell ⟨w.heap.size + 1, 1, none⟩ (.int .u32 B)).setCell ⟨w.heap.size + 1, 2, none⟩ (.int .u64 H1)).setCell ⟨w.heap.size + 1, 3, none⟩ (.int .u64 L1)).setCell ⟨w.heap.size + 1, 4, none⟩ (.pointer z1)).setCell ⟨w.heap.size + 1, 5, none⟩ (.int .u64 H2)).setCell ⟨w.heap.size + 1, 6, none⟩ (.int .u64 L2)).setCell ⟨w.heap.size + 1, 7, none⟩ (.pointer z2)).drew := ⟨_, rfl⟩
  have HM4 : Hid (Blk W4 (w.heap.size + 1) 36 #[.int .u32 A, .int .u32 B, .int .u64 H1, .int .u64 L1, .pointer z1, .int .u64 H2, .int .u64 L2, .pointer z2, .bool true, .bool false, .slice none 0 0]) := by rw [Hid, hW4]; exact ((((((((HM.out.set 0 (.int .u32 A)).set 1 (.int .u32 B)).set 2 (.int .u64 H1)).set 3 (.int .u64 L1)).set 4 (.pointer z1)).set 5 (.int .u64 H2)).set 6 (.int .u64 L2)).set 7 (.pointer z2)).drew
  have HR4 : Hid (Blk W4 w.heap.size 36 Z11) := by rw [Hid, hW4]; exact (HR.out.kept (((((((((Kept.refl W3 (fun i => i = w.heap.size + 1)).set (.inl rfl) _).set (.inl rfl) _).set (.inl rfl) _).set (.inl rfl) _).set (.inl rfl) _).set (.inl rfl) _).set (.inl rfl) _).set (.inl rfl) _) (by show ¬ w.heap.size = w.heap.size + 1; omega)).drew
  have HK4 : Hid (Kept w W4 (fun i => i = w.heap.size ∨ i = w.heap.size + 1)) := by rw [Hid, hW4]; exact ((((((((HK.out.set (k := 0) (.inl (.inr rfl)) (.int .u32 A)).set (k := 1) (.inl (.inr rfl)) (.int .u32 B)).set (k := 2) (.inl (.inr rfl)) (.int .u64 H1)).set (k := 3) (.inl (.inr rfl)) (.int .u64 L1)).set (k := 4) (.inl (.inr rfl)) (.pointer z1)).set (k := 5) (.inl (.inr rfl)) (.int .u64 H2)).set (k := 6) (.inl (.inr rfl)) (.int .u64 L2)).set (k := 7) (.inl (.inr rfl)) (.pointer z2)).drew
  rw [← hW4]
  clear hW4 HM HR HK f1 p0 p1 p2 p3 p4 p5 p6 p7 m0 m1 m2 m3 m4 m5 m6 m7 m8 m9 m10
  have m0 : W4.cell? ⟨w.heap.size + 1, 0, none⟩ = some (.int .u32 A) := HM4.out.cell 0
  have m1 : W4.cell? ⟨w.heap.size + 1, 1, none⟩ = some (.int .u32 B) := HM4.out.cell 1
  have m2 : W4.cell? ⟨w.heap.size + 1, 2, none⟩ = some (.int .u64 H1) := HM4.out.cell 2
  have m3 : W4.cell? ⟨w.heap.size + 1, 3, none⟩ = some (.int .u64 L1) := HM4.out.cell 3
  have m4 : W4.cell? ⟨w.heap.size + 1, 4, none⟩ = some (.pointer z1) := HM4.out.cell 4
  have m5 : W4.cell? ⟨w.heap.size + 1, 5, none⟩ = some (.int .u64 H2) := HM4.out.cell 5
  have m6 : W4.cell? ⟨w.heap.size + 1, 6, none⟩ = some (.int .u64 L2) := HM4.out.cell 6
  have m7 : W4.cell? ⟨w.heap.size + 1, 7, none⟩ = some (.pointer z2) := HM4.out.cell 7
  have m8 : W4.cell? ⟨w.heap.size + 1, 8, none⟩ = some (.bool true) := HM4.out.cell 8
  have m9 : W4.cell? ⟨w.heap.size + 1, 9, none⟩ = some (.bool false) := HM4.out.cell 9
  have m10 : W4.cell? ⟨w.heap.size + 1, 10, none⟩ = some (.slice none 0 0) := HM4.out.cell 10
  have r0 : W4.cell? ⟨w.heap.size, 0, none⟩ = some (.int .u32 0) := HR4.out.cell 0
  have r1 : W4.cell? ⟨w.heap.size, 1, none⟩ = some (.int .u32 0) := HR4.out.cell 1
  have r2 : W4.cell? ⟨w.heap.size, 2, none⟩ = some (.int .u64 0) := HR4.out.cell 2
  have r3 : W4.cell? ⟨w.heap.size, 3, none⟩ = some (.int .u64 0) := HR4.out.cell 3
  have r4 : W4.cell? ⟨w.heap.size, 4, none⟩ = some (.pointer none) := HR4.out.cell 4
  have r5 : W4.cell? ⟨w.heap.size, 5, none⟩ = some (.int .u64 0) := HR4.out.cell 5
  have r6 : W4.cell? ⟨w.heap.size, 6, none⟩ = some (.int .u64 0) := HR4.out.cell 6
  have r7 : W4.cell? ⟨w.heap.size, 7, none⟩ = some (.pointer none) := HR4.out.cell 7
  have r8 : W4.cell? ⟨w.heap.size, 8, none⟩ = some (.bool false) := HR4.out.cell 8
  have r9 : W4.cell? ⟨w.heap.size, 9, none⟩ = some (.bool false) := HR4.out.cell 9
  have r10 : W4.cell? ⟨w.heap.size, 10, none⟩ = some (.slice none 0 0) := HR4.out.cell 10
  have f1 := HM4.out.frozen
  have f2 := HR4.out.frozen
  have HB8 := Hid.mk' ((((((((((((HR4.out.kept ((Kept.refl W4 (fun i => i = w.heap.size + 1)).set (k := 10) (.inl rfl) (.slice (some ⟨g, x, none⟩) m c)) (by show ¬ w.heap.size = w.heap.size + 1; omega)).set 0 (.int .u32 A)).set 1 (.int .u32 B)).set 2 (.int .u64 H1)).set 3 (.int .u64 L1)).set 4 (.pointer z1)).set 5 (.int .u64 H2)).set 6 (.int .u64 L2)).set 7 (.pointer z2)).set 8 (.bool true)).set 9 (.bool false)).set 10 (.slice (some ⟨g, x, none⟩) m c))
  have HK8 := Hid.mk' ((((((((((((HK4.out.set (k := 10) (.inl (.inr rfl)) (.slice (some ⟨g, x, none⟩) m c)).set (k := 0) (.inl (.inl rfl)) (.int .u32 A)).set (k := 1) (.inl (.inl rfl)) (.int .u32 B)).set (k := 2) (.inl (.inl rfl)) (.int .u64 H1)).set (k := 3) (.inl (.inl rfl)) (.int .u64 L1)).set (k := 4) (.inl (.inl rfl)) (.pointer z1)).set (k := 5) (.inl (.inl rfl)) (.int .u64 H2)).set (k := 6) (.inl (.inl rfl)) (.int .u64 L2)).set (k := 7) (.inl (.inl rfl)) (.pointer z2)).set (k := 8) (.inl (.inl rfl)) (.bool true)).set (k := 9) (.inl (.inl rfl)) (.bool false)).set (k := 10) (.inl (.inl rfl)) (.slice (some ⟨g, x, none⟩) m c))
  go_wp2
  refine bodyPost_ret (v := .tuple #[.agg #[.int .u32 A, .int .u32 B, .int .u64 H1, .int .u64 L1, .pointer z1, .int .u64 H2, .int .u64 L2, .pointer z2, .bool true, .bool false, .slice (some ⟨g, x, none⟩) m c], .nilIface]) (by simp [results, Tryf.results7, go_sem, HB8.out.cell]) rfl ?_
  exact ⟨_, rfl, HQ.out, HK8.out.below (Nat.le_refl _) (fun i q => by rcases q with q | q <;> omega)⟩

set_option maxRecDepth 100000 in
set_option maxHeartbeats 4000000 in
theorem message_7 (rb : Nat) (ts : Int) (bs : Value) (A B H1 L1 H2 L2 : Int) (z1 z2 : Option Addr) (g m c : Nat) (Q : Nat → Prop) (w : World) (hB : Blk w rb 40 (recOf ts 7 bs))
    (hP : ∀ w', Below w.heap.size w w' → Calls Tryf.prog 18 #[.pointer (some ⟨rb, 0, none⟩), .bool true, .string ⟨#[109, 101, 115, 115, 97, 103, 101]⟩] w' fun e w'' => ∃ x, e = .returned (.tuple #[.agg #[.int .u32 A, .int .u32 B, .int .u64 H1, .int .u64 L1, .pointer z1, .int .u64 H2, .int .u64 L2, .pointer z2], .slice (some ⟨g, x, none⟩) m c, .nilIface]) ∧ Q x ∧ Below w'.heap.size w' w'') :
    Calls Tryf.prog 7 #[.pointer (some ⟨rb, 0, none⟩)] w fun e w' => ∃ x, e = .returned (.tuple #[.agg #[.int .u32 A, .int .u32 B, .int .u64 H1, .int .u64 L1, .pointer z1, .int .u64 H2, .int .u64 L2, .pointer z2, .bool true, .bool true, .slice (some ⟨g, x, none⟩) m c], .nilIface]) ∧ Q x ∧ Below w.heap.size w w' := by
  have HBL : Hid (Blk w rb 40 (recOf ts 7 bs)) := hB
  have HP : Hid (∀ w', Below w.heap.size w w' → Calls Tryf.prog 18 #[.pointer (some ⟨rb, 0, none⟩), .bool true, .string ⟨#[109, 101, 115, 115, 97, 103, 101]⟩] w' fun e w'' => ∃ x, e = .returned (.tuple #[.agg #[.int .u32 A, .int .u32 B, .int .u64 H1, .int .u64 L1, .pointer z1, .int .u64 H2, .int .u64 L2, .pointer z2], .slice (some ⟨g, x, none⟩) m c, .nilIface]) ∧ Q x ∧ Below w'.heap.size w' w'') := hP
  have rl := hB.lt
  have s2 : ∀ a, (w.alloc a).cell? ⟨rb, 2, none⟩ = some (.int .u16 7) := fun a => cell_later ((Below.refl _ _).alloc (Nat.le_refl _) a) (hB.cell 2)
  have t2 : ∀ a b, ((w.alloc a).alloc b).cell? ⟨rb, 2, none⟩ = some (.int .u16 7) := fun a b => cell_later ((Below.refl _ _).alloc (Nat.le_refl _) b) (s2 a)
  clear hB hP
  go_enter Tryf.func7, Tryf.ntmps7
  go_wp2_with (first
    | (go_at_call 17; go_must (refine (isMsg_any rb ts 7 bs _ (by exact (HBL.out.kept ((Kept.refl _ (fun _ => False)).alloc _) (fun h => h))) (by decide)).mono ?_); rintro e w1 ⟨rfl, rfl⟩)
    | (go_at_call 18; go_must (refine (HP.out _ (by exact ((((Below.refl _ _).alloc (Nat.le_refl _) _).alloc (by simp) _)))).mono ?_); rintro e w2 ⟨x, rfl, hq', hb2'⟩; have HQ : Hid (Q x) := hq'; clear hq')
    | fail)
  obtain ⟨hM0, hR0, hK0⟩ := boxed2 hb2'
  obtain ⟨P, hPd⟩ : ∃ P, P = w2.heap.size := ⟨_, rfl⟩
  have hPs : w.heap.size + 2 ≤ P := by rw [hPd]; have := hb2'.size; simpa using this
  obtain ⟨W3, hW3⟩ : ∃ W3, W3 = w2.alloc (.cells #[.int .u32 A, .int .u32 B, .int .u64 H1, .int .u64 L1, .pointer z1, .int .u64 H2, .int .u64 L2, .pointer z2] 62) := ⟨_, rfl⟩
  have al : Kept w2 W3 (fun _ => False) := by rw [hW3]; exact (Kept.refl _ _).alloc _
  have HM : Hid (Blk W3 (w.heap.size + 1) 36 #[.int .u32 0, .int .u32 0, .int .u64 0, .int .u64 0, .pointer none, .int .u64 0, .int .u64 0, .pointer none, .bool true, .bool true, .slice none 0 0]) := hM0.kept al (fun h => h)
  have HR : Hid (Blk W3 w.heap.size 36 Z11) := hR0.kept al (fun h => h)
  have HK : Hid (Kept w W3 (fun i => i = w.heap.size ∨ i = w.heap.size + 1)) := hK0.next al (fun _ _ h => h.elim)
  have hPb : Blk W3 P 62 #[.int .u32 A, .int .u32 B, .int .u64 H1, .int .u64 L1, .pointer z1, .int .u64 H2, .int .u64 L2, .pointer z2] := by rw [hW3, hPd]; exact Blk.new _ _ _
  rw [← hW3, ← hPd]
  clear hM0 hR0 hK0 hb2' hW3 hPd al s2 t2 HBL HP
  have p0 : W3.cell? ⟨P, 0, none⟩ = some (.int .u32 A) := hPb.cell 0
  have p1 : W3.cell? ⟨P, 1, none⟩ = some (.int .u32 B) := hPb.cell 1
  have p2 : W3.cell? ⟨P, 2, none⟩ = some (.int .u64 H1) := hPb.cell 2
  have p3 : W3.cell? ⟨P, 3, none⟩ = some (.int .u64 L1) := hPb.cell 3
  have p4 : W3.cell? ⟨P, 4, none⟩ = some (.pointer z1) := hPb.cell 4
  have p5 : W3.cell? ⟨P, 5, none⟩ = some (.int .u64 H2) := hPb.cell 5
  have p6 : W3.cell? ⟨P, 6, none⟩ = some (.int .u64 L2) := hPb.cell 6
  have p7 : W3.cell? ⟨P, 7, none⟩ = some (.pointer z2) := hPb.cell 7
  have m0 : W3.cell? ⟨w.heap.size + 1, 0, none⟩ = some (.int .u32 0) := HM.out.cell 0
  have m1 : W3.cell? ⟨w.heap.size + 1, 1, none⟩ = some (.int .u32 0) := HM.out.cell 1
  have m2 : W3.cell? ⟨w.heap.size + 1, 2, none⟩ = some (.int .u64 0) := HM.out.cell 2
  have m3 : W3.cell? ⟨w.heap.size + 1, 3, none⟩ = some (.int .u64 0) := HM.out.cell 3
  have m4 : W3.cell? ⟨w.heap.size + 1, 4, none⟩ = some (.pointer none) := HM.out.cell 4
  have m5 : W3.cell? ⟨w.heap.size + 1, 5, none⟩ = some (.int .u64 0) := HM.out.cell 5
  have m6 : W3.cell? ⟨w.heap.size + 1, 6, none⟩ = some (.int .u64 0) := HM.out.cell 6
  have m7 : W3.cell? ⟨w.heap.size + 1, 7, none⟩ = some (.pointer none) := HM.out.cell 7
  have m8 : W3.cell? ⟨w.heap.size + 1, 8, none⟩ = some (.bool true) := HM.out.cell 8
  have m9 : W3.cell? ⟨w.heap.size + 1, 9, none⟩ = some (.bool true) := HM.out.cell 9
  have m10 : W3.cell? ⟨w.heap.size + 1, 10, none⟩ = some (.slice none 0 0) := HM.out.cell 10
  have f1 := HM.out.frozen
  have n1 : ¬ P = w.heap.size + 1 := by omega
  have n2 : ¬ w.heap.size + 1 = P := by omega
  clear hPb
  go_region_held3 (fun w' => w'.cell? ⟨P, 0, none⟩ = some (.int .u32 A) ∧ w'.cell? ⟨P, 1, none⟩ = some (.int .u32 B) ∧ w'.cell? ⟨P, 2, none⟩ = some (.int .u64 H1) ∧ w'.cell? ⟨P, 3, none⟩ = some (.int .u64 L1) ∧ w'.cell? ⟨P, 4, none⟩ = some (.pointer z1) ∧ w'.cell? ⟨P, 5, none⟩ = some (.int .u64 H2) ∧ w'.cell? ⟨P, 6, none⟩ = some (.int .u64 L2) ∧ w'.cell? ⟨P, 7, none⟩ = some (.pointer z2)) ((first | go_keep)) (fail)
  obtain ⟨W4, hW4⟩ : ∃ W4, W4 = ((((((((W3.setCell ⟨w.heap.size + 1, 0, none⟩ (.int .u32 A)).setCell ⟨w.heap.size + 1, 1, none⟩ (.int .u32 B)).setCell ⟨w.heap.size + 1, 2, none⟩ (.int .u64 H1)).setCell ⟨w.heap.size + 1, 3, none⟩ (.int .u64 L1)).setCell ⟨w.heap.size + 1, 4, none⟩ (.pointer z1)).setCell ⟨w.heap.size + 1, 5, none⟩ (.int .u64 H2)).setCell ⟨w.heap.size + 1, 6, none⟩ (.int .u64 L2)).setCell ⟨w.heap.size + 1, 7, none⟩ (.pointer z2)).drew := ⟨_, rfl⟩
  have HM4 : Hid (Blk W4 (w.heap.size + 1) 36 #[.int .u32 A, .int .u32 B, .int .u64 H1, .int .u64 L1, .pointer z1, .int .u64 H2, .int .u64 L2, .pointer z2, .bool true, .bool true, .slice none 0 0]) := by rw [Hid, hW4]; exact ((((((((HM.out.set 0 (.int .u32 A)).set 1 (.int .u32 B)).set 2 (.int .u64 H1)).set 3 (.int .u64 L1)).set 4 (.pointer z1)).set 5 (.int .u64 H2)).set 6 (.int .u64 L2)).set 7 (.pointer z2)).drew
  have HR4 : Hid (Blk W4 w.heap.size 36 Z11) := by rw [Hid, hW4]; exact (HR.out.kept (((((((((Kept.refl W3 (fun i => i = w.heap.size + 1)).set (.inl rfl) _).set (.inl rfl) _).set (.inl rfl) _).set (.inl rfl) _).set (.inl rfl) _).set (.inl rfl) _).set (.inl rfl) _).set (.inl rfl) _) (by show ¬ w.heap.size = w.heap.size + 1; omega)).drew
  have HK4 : Hid (Kept w W4 (fun i => i = w.heap.size ∨ i = w.heap.size + 1)) := by rw [Hid, hW4]; exact ((((((((HK.out.set (k := 0) (.inl (.inr rfl)) (.int .u32 A)).set (k := 1) (.inl (.inr rfl)) (.int .u32 B)).set (k := 2) (.inl (.inr rfl)) (.int .u64 H1)).set (k := 3) (.inl (.inr rfl)) (.int .u64 L1)).set (k := 4) (.inl (.inr rfl)) (.pointer z1)).set (k := 5) (.inl (.inr rfl)) (.int .u64 H2)).set (k := 6) (.inl (.inr rfl)) (.int .u64 L2)).set (k := 7) (.inl (.inr rfl)) (.pointer z2)).drew
  rw [← hW4]
  clear hW4 HM HR HK f1 p0 p1 p2 p3 p4 p5 p6 p7 m0 m1 m2 m3 m4 m5 m6 m7 m8 m9 m10
  have m0 : W4.cell? ⟨w.heap.size + 1, 0, none⟩ = some (.int .u32 A) := HM4.out.cell 0
  have m1 : W4.cell? ⟨w.heap.size + 1, 1, none⟩ = some (.int .u32 B) := HM4.out.cell 1
  have m2 : W4.cell? ⟨w.heap.size + 1, 2, none⟩ = some (.int .u64 H1) := HM4.out.cell 2
  have m3 : W4.cell? ⟨w.heap.size + 1, 3, none⟩ = some (.int .u64 L1) := HM4.out.cell 3
  have m4 : W4.cell? ⟨w.heap.size + 1, 4, none⟩ = some (.pointer z1) := HM4.out.cell 4
  have m5 : W4.cell? ⟨w.heap.size + 1, 5, none⟩ = some (.int .u64 H2) := HM4.out.cell 5
  have m6 : W4.cell? ⟨w.heap.size + 1, 6, none⟩ = some (.int .u64 L2) := HM4.out.cell 6
  have m7 : W4.cell? ⟨w.heap.size + 1, 7, none⟩ = some (.pointer z2) := HM4.out.cell 7
  have m8 : W4.cell? ⟨w.heap.size + 1, 8, none⟩ = some (.bool true) := HM4.out.cell 8
  have m9 : W4.cell? ⟨w.heap.size + 1, 9, none⟩ = some (.bool true) := HM4.out.cell 9
  have m10 : W4.cell? ⟨w.heap.size + 1, 10, none⟩ = some (.slice none 0 0) := HM4.out.cell 10
  have r0 : W4.cell? ⟨w.heap.size, 0, none⟩ = some (.int .u32 0) := HR4.out.cell 0
  have r1 : W4.cell? ⟨w.heap.size, 1, none⟩ = some (.int .u32 0) := HR4.out.cell 1
  have r2 : W4.cell? ⟨w.heap.size, 2, none⟩ = some (.int .u64 0) := HR4.out.cell 2
  have r3 : W4.cell? ⟨w.heap.size, 3, none⟩ = some (.int .u64 0) := HR4.out.cell 3
  have r4 : W4.cell? ⟨w.heap.size, 4, none⟩ = some (.pointer none) := HR4.out.cell 4
  have r5 : W4.cell? ⟨w.heap.size, 5, none⟩ = some (.int .u64 0) := HR4.out.cell 5
  have r6 : W4.cell? ⟨w.heap.size, 6, none⟩ = some (.int .u64 0) := HR4.out.cell 6
  have r7 : W4.cell? ⟨w.heap.size, 7, none⟩ = some (.pointer none) := HR4.out.cell 7
  have r8 : W4.cell? ⟨w.heap.size, 8, none⟩ = some (.bool false) := HR4.out.cell 8
  have r9 : W4.cell? ⟨w.heap.size, 9, none⟩ = some (.bool false) := HR4.out.cell 9
  have r10 : W4.cell? ⟨w.heap.size, 10, none⟩ = some (.slice none 0 0) := HR4.out.cell 10
  have f1 := HM4.out.frozen
  have f2 := HR4.out.frozen
  have HB8 := Hid.mk' ((((((((((((HR4.out.kept ((Kept.refl W4 (fun i => i = w.heap.size + 1)).set (k := 10) (.inl rfl) (.slice (some ⟨g, x, none⟩) m c)) (by show ¬ w.heap.size = w.heap.size + 1; omega)).set 0 (.int .u32 A)).set 1 (.int .u32 B)).set 2 (.int .u64 H1)).set 3 (.int .u64 L1)).set 4 (.pointer z1)).set 5 (.int .u64 H2)).set 6 (.int .u64 L2)).set 7 (.pointer z2)).set 8 (.bool true)).set 9 (.bool true)).set 10 (.slice (some ⟨g, x, none⟩) m c))
  have HK8 := Hid.mk' ((((((((((((HK4.out.set (k := 10) (.inl (.inr rfl)) (.slice (some ⟨g, x, none⟩) m c)).set (k := 0) (.inl (.inl rfl)) (.int .u32 A)).set (k := 1) (.inl (.inl rfl)) (.int .u32 B)).set (k := 2) (.inl (.inl rfl)) (.int .u64 H1)).set (k := 3) (.inl (.inl rfl)) (.int .u64 L1)).set (k := 4) (.inl (.inl rfl)) (.pointer z1)).set (k := 5) (.inl (.inl rfl)) (.int .u64 H2)).set (k := 6) (.inl (.inl rfl)) (.int .u64 L2)).set (k := 7) (.inl (.inl rfl)) (.pointer z2)).set (k := 8) (.inl (.inl rfl)) (.bool true)).set (k := 9) (.inl (.inl rfl)) (.bool true)).set (k := 10) (.inl (.inl rfl)) (.slice (some ⟨g, x, none⟩) m c))
  go_wp2
  refine bodyPost_ret (v := .tuple #[.agg #[.int .u32 A, .int .u32 B, .int .u64 H1, .int .u64 L1, .pointer z1, .int .u64 H2, .int .u64 L2, .pointer z2, .bool true, .bool true, .slice (some ⟨g, x, none⟩) m c], .nilIface]) (by simp [results, Tryf.results7, go_sem, HB8.out.cell]) rfl ?_
  exact ⟨_, rfl, HQ.out, HK8.out.below (Nat.le_refl _) (fun i q => by rcases q with q | q <;> omega)⟩

end Go.Proofs.Qxb6003778aFmt
