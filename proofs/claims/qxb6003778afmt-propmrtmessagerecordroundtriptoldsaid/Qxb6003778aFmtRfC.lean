import Derived.Test.Qxb6003778aFmtRfA
namespace Go.Proofs.Qxb6003778aFmt
open Go.RowKit Go.Extern.Stop Go.Stop Go.Extern
set_option linter.unusedVariables false
set_option linter.unusedSimpArgs false

set_option maxRecDepth 100000 in
set_option maxHeartbeats 4000000 in
theorem fail_ff6 (F : Interp) (mb : Nat) (pa la hp lp hl ll : Nat) (zp zl : Option Addr) (d : Value) (ts : Int) (p4 p6 : Addr) (w : World) (hF : F.answers w.tape) (hz : Zs w p4 p6) (hM : Blk w mb 36 (msgOf pa la hp lp zp hl ll zl false false d)) (hpa : pa < 65536) (hla : la < 65536)
    (hP4 : IsB 14 false p4 p6 (AV hp lp zp)) (hP6 : IsB 15 true p4 p6 (AV hp lp zp)) (hL6 : IsB 15 false p4 p6 (AV hl ll zl)) (hSP : ∀ W, Zs W p4 p6 → Calls Tryf.prog 22 #[AV hp lp zp] W (Texted W)) (hSL : ∀ W, Zs W p4 p6 → Calls Tryf.prog 22 #[AV hl ll zl] W (Texted W)) :
    Calls Tryf.prog 6 #[.pointer (some ⟨mb, 0, none⟩), .int .u32 ts] w (NotRecorded w) := by
  obtain ⟨i0, hi, hz0, hz1, hz2⟩ := info_parts Tryf.info5
  have hm := hM.lt
  have HM : Hid (∀ W, Below w.heap.size w W → Blk W mb 36 (msgOf pa la hp lp zp hl ll zl false false d)) := fun W hb => (hb.block _ hM.lt).trans hM
  have al2 : ∀ a b, Below w.heap.size w ((w.alloc a).alloc b) := fun a b => ((Below.refl _ _).alloc (Nat.le_refl _) _).alloc (by simp) _
  have s8 : ∀ a b, ((w.alloc a).alloc b).cell? ⟨mb, 8, none⟩ = some (.bool false) := fun a b => cell_later (al2 a b) (hM.cell 8)
  have s9 : ∀ a b, ((w.alloc a).alloc b).cell? ⟨mb, 9, none⟩ = some (.bool false) := fun a b => cell_later (al2 a b) (hM.cell 9)
  have HZ : Hid (∀ W, Below w.heap.size w W → Zs W p4 p6) := fun W hb => hz.later hb
  have s0 : ∀ a b, ((w.alloc a).alloc b).cell? ⟨mb, 0, none⟩ = some (.int .u32 pa) := fun a b => cell_later (al2 a b) (hM.cell 0)
  have s1 : ∀ a b, ((w.alloc a).alloc b).cell? ⟨mb, 1, none⟩ = some (.int .u32 la) := fun a b => cell_later (al2 a b) (hM.cell 1)
  have q1 : ¬ (65535 : Int) < (pa : Int) := by omega
  have q2 : ¬ (65535 : Int) < (la : Int) := by omega
  have HP4 := Hid.mk'' hP4
  have HP6 := Hid.mk'' hP6
  have HL6 := Hid.mk'' hL6
  have HSP := Hid.mk'' hSP
  have HSL := Hid.mk'' hSL
  have HF : Hid (∀ W, Below w.heap.size w W → F.answers W.tape) := fun W hb => by rw [hb.tape]; exact hF
  clear hz hM hP4 hP6 hSP hSL hF hL6
  go_enter Tryf.func6, Tryf.ntmps6
  go_wp2_with fail
  obtain ⟨W, hW⟩ : ∃ W, W = (w.alloc (.cells Z4 40)).alloc (.cells (recOf ts 1 (.slice none 0 0)) 40) := ⟨_, rfl⟩
  have HR : Hid (Rf w W ts 1 (.slice none 0 0) []) := by rw [Hid, hW]; exact Rf.mk2 _ _ _
  rw [← hW]
  clear hW s8 s9 al2 s0 s1
  have wpa : IntKind.u16.wrap (pa : Int) = (pa : Int) := by rw [IntKind.wrap_u16]; omega
  have wla : IntKind.u16.wrap (la : Int) = (la : Int) := by rw [IntKind.wrap_u16]; omega
  have c0 : W.cell? ⟨mb, 0, none⟩ = some (.int .u32 pa) := (HM.out _ HR.out.below).cell 0
  go_region_held3 (fun w' => w'.cell? ⟨mb, 0, none⟩ = some (.int .u32 pa)) ((first | go_keep | exact ext_keep0 ‹Ext _ _ _ _› c0)) ((first
    | (go_at_call 13; refine (app16_any (pa : Int) (w.heap.size + 2) _ [] _ (by omega) (by omega) (by exact HR.out.row) (by exact HR.out.size) (by simp)).mono ?_; rintro e w3 ⟨v3, rfl, hO3, hE3, -⟩)
    | fail))
  have HR3 : Hid (Rf w w3 ts 1 v3 (be16 (pa : Int))) := HR.out.drew.ext hE3 (by simpa using hO3)
  have c1 : w3.cell? ⟨mb, 1, none⟩ = some (.int .u32 la) := (HM.out _ HR3.out.below).cell 1
  clear c0 hO3 hE3 HR
  go_wp2_with fail
  go_region_held3 (fun w' => w'.cell? ⟨mb, 1, none⟩ = some (.int .u32 la)) ((first | go_keep | exact ext_keep ‹Ext _ _ _ _› c1 (HR3.out.own (i := mb) (by omega)))) ((first
    | (go_at_call 13; refine (app16_any (la : Int) (w.heap.size + 2) _ (be16 (pa : Int)) _ (by omega) (by omega) (by exact HR3.out.row) (by exact HR3.out.size) (by simp [b4, be16])).mono ?_; rintro e w5 ⟨v5, rfl, hO5, hE5, -⟩)
    | fail))
  have HR5 : Hid (Rf w w5 ts 1 v5 (be16 (pa : Int) ++ be16 (la : Int))) := HR3.out.drew.ext hE5 hO5
  clear c1 hO5 hE5 HR3
  have SX : Hid (∀ W, Below w.heap.size w W → W.cell? ⟨mb, 2, none⟩ = some (.int .u64 hp) ∧ W.cell? ⟨mb, 3, none⟩ = some (.int .u64 lp) ∧ W.cell? ⟨mb, 4, none⟩ = some (.pointer zp) ∧ W.cell? ⟨mb, 5, none⟩ = some (.int .u64 hl) ∧ W.cell? ⟨mb, 6, none⟩ = some (.int .u64 ll) ∧ W.cell? ⟨mb, 7, none⟩ = some (.pointer zl)) :=
    fun W hb => ⟨(HM.out W hb).cell 2, (HM.out W hb).cell 3, (HM.out W hb).cell 4, (HM.out W hb).cell 5, (HM.out W hb).cell 6, (HM.out W hb).cell 7⟩
  obtain ⟨c2, c3, c4, c5, c6, c7⟩ := SX.out _ HR5.out.below
  unfold AV IsB at *
  go_wp2_with (first
    | (go_at_call 14; go_must (refine (HP4.out _ (HZ.out _ HR5.out.below)).mono ?_); rintro e w61 ⟨rfl, hb'⟩; have HR61 : Hid (Rf w w61 ts 1 v5 (be16 (pa : Int) ++ be16 (la : Int))) := HR5.out.later hb'; obtain ⟨c2, c3, c4, c5, c6, c7⟩ := SX.out _ HR61.out.below; clear hb')
    | (go_at_call 15; have _tok := HR62; go_must (refine (HL6.out _ (HZ.out _ HR62.out.below)).mono ?_); rintro e w7 ⟨rfl, hb'⟩; have HR7 : Hid (Rf w w7 ts 1 v5 (be16 (pa : Int) ++ be16 (la : Int))) := HR62.out.later hb'; obtain ⟨c2, c3, c4, c5, c6, c7⟩ := SX.out _ HR7.out.below; clear hb')
    | (go_at_call 15; go_must (refine (HP6.out _ (HZ.out _ HR61.out.below)).mono ?_); rintro e w62 ⟨rfl, hb'⟩; have HR62 : Hid (Rf w w62 ts 1 v5 (be16 (pa : Int) ++ be16 (la : Int))) := HR61.out.later hb'; obtain ⟨c2, c3, c4, c5, c6, c7⟩ := SX.out _ HR62.out.below; clear hb')
    | fail)
  have hs7 := HR7.out.size
  have HBx : Hid (∀ a, Below w.heap.size w (w7.alloc a).drew) := fun a => below_drew (HR7.out.below.alloc HR7.out.below.size a)
  go_region_held3 (fun w' => w'.cell? ⟨mb, 2, none⟩ = some (.int .u64 hp) ∧ w'.cell? ⟨mb, 3, none⟩ = some (.int .u64 lp) ∧ w'.cell? ⟨mb, 4, none⟩ = some (.pointer zp) ∧ w'.cell? ⟨mb, 5, none⟩ = some (.int .u64 hl) ∧ w'.cell? ⟨mb, 6, none⟩ = some (.int .u64 ll) ∧ w'.cell? ⟨mb, 7, none⟩ = some (.pointer zl)) ((first | go_keep | exact SX.out _ HR9.out.below | exact SX.out _ (HBx.out _) | exact SX.out _ HRS.out)) ((first
    | (go_at_call 12; refine (errorf_addr F _ _ w7.heap.size _ (by exact HF.out _ (HBx.out _)) (fun W hb => by exact HSP.out _ (HZ.out _ ((HBx.out _).trans (hb.mono (HBx.out _).size)))) (fun W hb => by exact HSL.out _ (HZ.out _ ((HBx.out _).trans (hb.mono (HBx.out _).size)))) (by exact (Blk.new w7 _ _).cell 0) (by exact (Blk.new w7 _ _).cell 1)).mono ?_; rintro e w9 ⟨a9, rfl, hb9⟩; have HR9 : Hid (Rf w w9 ts 1 v5 (be16 (pa : Int) ++ be16 (la : Int))) := ((HR7.out.later ((Below.refl _ _).alloc (Nat.le_refl _) _)).drew.later hb9); have j0 : w9.cell? ⟨w.heap.size, 0, none⟩ = some (.int .u32 0) := HR9.out.r0.cell 0; have j1 : w9.cell? ⟨w.heap.size, 1, none⟩ = some (.int .u16 0) := HR9.out.r0.cell 1; have j2 : w9.cell? ⟨w.heap.size, 2, none⟩ = some (.int .u16 0) := HR9.out.r0.cell 2; have j3 : w9.cell? ⟨w.heap.size, 3, none⟩ = some (.slice none 0 0) := HR9.out.r0.cell 3; have f0 := HR9.out.r0.frozen; have HRS := Hid.mk'' (((((HR9.out.kept.set (k := 0) (.inl (.inl rfl)) (.int .u32 0)).set (k := 1) (.inl (.inl rfl)) (.int .u16 0)).set (k := 2) (.inl (.inl rfl)) (.int .u16 0)).set (k := 3) (.inl (.inl rfl)) (.slice none 0 0)).below (Nat.le_refl _) (fun i q => by rcases q with q | q <;> omega)))
    | fail))
  have HB9 := Hid.mk'' ((((HR9.out.r0.set 0 (.int .u32 0)).set 1 (.int .u16 0)).set 2 (.int .u16 0)).set 3 (.slice none 0 0))
  go_wp2
  refine bodyPost_ret (v := .tuple #[.agg Z4, .iface 77 (.pointer (some a9))]) (by simp [results, Tryf.results6, go_sem, HB9.out.cell]) rfl ?_
  exact ⟨a9, rfl, HRS.out⟩

set_option maxRecDepth 100000 in
set_option maxHeartbeats 4000000 in
theorem fail_ff0 (F : Interp) (mb : Nat) (pa la hp lp hl ll : Nat) (zp zl : Option Addr) (d : Value) (ts : Int) (p4 p6 : Addr) (w : World) (hF : F.answers w.tape) (hz : Zs w p4 p6) (hM : Blk w mb 36 (msgOf pa la hp lp zp hl ll zl false false d)) (hpa : pa < 65536) (hla : la < 65536)
    (hP4 : IsB 14 false p4 p6 (AV hp lp zp)) (hP6 : IsB 15 false p4 p6 (AV hp lp zp)) (hSP : ∀ W, Zs W p4 p6 → Calls Tryf.prog 22 #[AV hp lp zp] W (Texted W)) (hSL : ∀ W, Zs W p4 p6 → Calls Tryf.prog 22 #[AV hl ll zl] W (Texted W)) :
    Calls Tryf.prog 6 #[.pointer (some ⟨mb, 0, none⟩), .int .u32 ts] w (NotRecorded w) := by
  obtain ⟨i0, hi, hz0, hz1, hz2⟩ := info_parts Tryf.info5
  have hm := hM.lt
  have HM : Hid (∀ W, Below w.heap.size w W → Blk W mb 36 (msgOf pa la hp lp zp hl ll zl false false d)) := fun W hb => (hb.block _ hM.lt).trans hM
  have al2 : ∀ a b, Below w.heap.size w ((w.alloc a).alloc b) := fun a b => ((Below.refl _ _).alloc (Nat.le_refl _) _).alloc (by simp) _
  have s8 : ∀ a b, ((w.alloc a).alloc b).cell? ⟨mb, 8, none⟩ = some (.bool false) := fun a b => cell_later (al2 a b) (hM.cell 8)
  have s9 : ∀ a b, ((w.alloc a).alloc b).cell? ⟨mb, 9, none⟩ = some (.bool false) := fun a b => cell_later (al2 a b) (hM.cell 9)
  have HZ : Hid (∀ W, Below w.heap.size w W → Zs W p4 p6) := fun W hb => hz.later hb
  have s0 : ∀ a b, ((w.alloc a).alloc b).cell? ⟨mb, 0, none⟩ = some (.int .u32 pa) := fun a b => cell_later (al2 a b) (hM.cell 0)
  have s1 : ∀ a b, ((w.alloc a).alloc b).cell? ⟨mb, 1, none⟩ = some (.int .u32 la) := fun a b => cell_later (al2 a b) (hM.cell 1)
  have q1 : ¬ (65535 : Int) < (pa : Int) := by omega
  have q2 : ¬ (65535 : Int) < (la : Int) := by omega
  have HP4 := Hid.mk'' hP4
  have HP6 := Hid.mk'' hP6
  have HSP := Hid.mk'' hSP
  have HSL := Hid.mk'' hSL
  have HF : Hid (∀ W, Below w.heap.size w W → F.answers W.tape) := fun W hb => by rw [hb.tape]; exact hF
  clear hz hM hP4 hP6 hSP hSL hF 
  go_enter Tryf.func6, Tryf.ntmps6
  go_wp2_with fail
  obtain ⟨W, hW⟩ : ∃ W, W = (w.alloc (.cells Z4 40)).alloc (.cells (recOf ts 1 (.slice none 0 0)) 40) := ⟨_, rfl⟩
  have HR : Hid (Rf w W ts 1 (.slice none 0 0) []) := by rw [Hid, hW]; exact Rf.mk2 _ _ _
  rw [← hW]
  clear hW s8 s9 al2 s0 s1
  have wpa : IntKind.u16.wrap (pa : Int) = (pa : Int) := by rw [IntKind.wrap_u16]; omega
  have wla : IntKind.u16.wrap (la : Int) = (la : Int) := by rw [IntKind.wrap_u16]; omega
  have c0 : W.cell? ⟨mb, 0, none⟩ = some (.int .u32 pa) := (HM.out _ HR.out.below).cell 0
  go_region_held3 (fun w' => w'.cell? ⟨mb, 0, none⟩ = some (.int .u32 pa)) ((first | go_keep | exact ext_keep0 ‹Ext _ _ _ _› c0)) ((first
    | (go_at_call 13; refine (app16_any (pa : Int) (w.heap.size + 2) _ [] _ (by omega) (by omega) (by exact HR.out.row) (by exact HR.out.size) (by simp)).mono ?_; rintro e w3 ⟨v3, rfl, hO3, hE3, -⟩)
    | fail))
  have HR3 : Hid (Rf w w3 ts 1 v3 (be16 (pa : Int))) := HR.out.drew.ext hE3 (by simpa using hO3)
  have c1 : w3.cell? ⟨mb, 1, none⟩ = some (.int .u32 la) := (HM.out _ HR3.out.below).cell 1
  clear c0 hO3 hE3 HR
  go_wp2_with fail
  go_region_held3 (fun w' => w'.cell? ⟨mb, 1, none⟩ = some (.int .u32 la)) ((first | go_keep | exact ext_keep ‹Ext _ _ _ _› c1 (HR3.out.own (i := mb) (by omega)))) ((first
    | (go_at_call 13; refine (app16_any (la : Int) (w.heap.size + 2) _ (be16 (pa : Int)) _ (by omega) (by omega) (by exact HR3.out.row) (by exact HR3.out.size) (by simp [b4, be16])).mono ?_; rintro e w5 ⟨v5, rfl, hO5, hE5, -⟩)
    | fail))
  have HR5 : Hid (Rf w w5 ts 1 v5 (be16 (pa : Int) ++ be16 (la : Int))) := HR3.out.drew.ext hE5 hO5
  clear c1 hO5 hE5 HR3
  have SX : Hid (∀ W, Below w.heap.size w W → W.cell? ⟨mb, 2, none⟩ = some (.int .u64 hp) ∧ W.cell? ⟨mb, 3, none⟩ = some (.int .u64 lp) ∧ W.cell? ⟨mb, 4, none⟩ = some (.pointer zp) ∧ W.cell? ⟨mb, 5, none⟩ = some (.int .u64 hl) ∧ W.cell? ⟨mb, 6, none⟩ = some (.int .u64 ll) ∧ W.cell? ⟨mb, 7, none⟩ = some (.pointer zl)) :=
    fun W hb => ⟨(HM.out W hb).cell 2, (HM.out W hb).cell 3, (HM.out W hb).cell 4, (HM.out W hb).cell 5, (HM.out W hb).cell 6, (HM.out W hb).cell 7⟩
  obtain ⟨c2, c3, c4, c5, c6, c7⟩ := SX.out _ HR5.out.below
  unfold AV IsB at *
  go_wp2_with (first
    | (go_at_call 14; go_must (refine (HP4.out _ (HZ.out _ HR5.out.below)).mono ?_); rintro e w61 ⟨rfl, hb'⟩; have HR61 : Hid (Rf w w61 ts 1 v5 (be16 (pa : Int) ++ be16 (la : Int))) := HR5.out.later hb'; obtain ⟨c2, c3, c4, c5, c6, c7⟩ := SX.out _ HR61.out.below; clear hb')
    | (go_at_call 15; go_must (refine (HP6.out _ (HZ.out _ HR61.out.below)).mono ?_); rintro e w7 ⟨rfl, hb'⟩; have HR7 : Hid (Rf w w7 ts 1 v5 (be16 (pa : Int) ++ be16 (la : Int))) := HR61.out.later hb'; obtain ⟨c2, c3, c4, c5, c6, c7⟩ := SX.out _ HR7.out.below; clear hb')
    | fail)
  have hs7 := HR7.out.size
  have HBx : Hid (∀ a, Below w.heap.size w (w7.alloc a).drew) := fun a => below_drew (HR7.out.below.alloc HR7.out.below.size a)
  go_region_held3 (fun w' => w'.cell? ⟨mb, 2, none⟩ = some (.int .u64 hp) ∧ w'.cell? ⟨mb, 3, none⟩ = some (.int .u64 lp) ∧ w'.cell? ⟨mb, 4, none⟩ = some (.pointer zp) ∧ w'.cell? ⟨mb, 5, none⟩ = some (.int .u64 hl) ∧ w'.cell? ⟨mb, 6, none⟩ = some (.int .u64 ll) ∧ w'.cell? ⟨mb, 7, none⟩ = some (.pointer zl)) ((first | go_keep | exact SX.out _ HR9.out.below | exact SX.out _ (HBx.out _) | exact SX.out _ HRS.out)) ((first
    | (go_at_call 12; refine (errorf_addr F _ _ w7.heap.size _ (by exact HF.out _ (HBx.out _)) (fun W hb => by exact HSP.out _ (HZ.out _ ((HBx.out _).trans (hb.mono (HBx.out _).size)))) (fun W hb => by exact HSL.out _ (HZ.out _ ((HBx.out _).trans (hb.mono (HBx.out _).size)))) (by exact (Blk.new w7 _ _).cell 0) (by exact (Blk.new w7 _ _).cell 1)).mono ?_; rintro e w9 ⟨a9, rfl, hb9⟩; have HR9 : Hid (Rf w w9 ts 1 v5 (be16 (pa : Int) ++ be16 (la : Int))) := ((HR7.out.later ((Below.refl _ _).alloc (Nat.le_refl _) _)).drew.later hb9); have j0 : w9.cell? ⟨w.heap.size, 0, none⟩ = some (.int .u32 0) := HR9.out.r0.cell 0; have j1 : w9.cell? ⟨w.heap.size, 1, none⟩ = some (.int .u16 0) := HR9.out.r0.cell 1; have j2 : w9.cell? ⟨w.heap.size, 2, none⟩ = some (.int .u16 0) := HR9.out.r0.cell 2; have j3 : w9.cell? ⟨w.heap.size, 3, none⟩ = some (.slice none 0 0) := HR9.out.r0.cell 3; have f0 := HR9.out.r0.frozen; have HRS := Hid.mk'' (((((HR9.out.kept.set (k := 0) (.inl (.inl rfl)) (.int .u32 0)).set (k := 1) (.inl (.inl rfl)) (.int .u16 0)).set (k := 2) (.inl (.inl rfl)) (.int .u16 0)).set (k := 3) (.inl (.inl rfl)) (.slice none 0 0)).below (Nat.le_refl _) (fun i q => by rcases q with q | q <;> omega)))
    | fail))
  have HB9 := Hid.mk'' ((((HR9.out.r0.set 0 (.int .u32 0)).set 1 (.int .u16 0)).set 2 (.int .u16 0)).set 3 (.slice none 0 0))
  go_wp2
  refine bodyPost_ret (v := .tuple #[.agg Z4, .iface 77 (.pointer (some a9))]) (by simp [results, Tryf.results6, go_sem, HB9.out.cell]) rfl ?_
  exact ⟨a9, rfl, HRS.out⟩

set_option maxRecDepth 100000 in
set_option maxHeartbeats 4000000 in
theorem fail_tt4 (F : Interp) (mb : Nat) (pa la hp lp hl ll : Nat) (zp zl : Option Addr) (d : Value) (ts : Int) (p4 p6 : Addr) (w : World) (hF : F.answers w.tape) (hz : Zs w p4 p6) (hM : Blk w mb 36 (msgOf pa la hp lp zp hl ll zl true true d)) (hpa : pa < 4294967296) (hla : la < 4294967296)
    (hP4 : IsB 14 true p4 p6 (AV hp lp zp)) (hL4 : IsB 14 false p4 p6 (AV hl ll zl)) (hP6 : IsB 15 false p4 p6 (AV hp lp zp)) (hSP : ∀ W, Zs W p4 p6 → Calls Tryf.prog 22 #[AV hp lp zp] W (Texted W)) (hSL : ∀ W, Zs W p4 p6 → Calls Tryf.prog 22 #[AV hl ll zl] W (Texted W)) :
    Calls Tryf.prog 6 #[.pointer (some ⟨mb, 0, none⟩), .int .u32 ts] w (NotRecorded w) := by
  obtain ⟨i0, hi, hz0, hz1, hz2⟩ := info_parts Tryf.info5
  have hm := hM.lt
  have HM : Hid (∀ W, Below w.heap.size w W → Blk W mb 36 (msgOf pa la hp lp zp hl ll zl true true d)) := fun W hb => (hb.block _ hM.lt).trans hM
  have al2 : ∀ a b, Below w.heap.size w ((w.alloc a).alloc b) := fun a b => ((Below.refl _ _).alloc (Nat.le_refl _) _).alloc (by simp) _
  have s8 : ∀ a b, ((w.alloc a).alloc b).cell? ⟨mb, 8, none⟩ = some (.bool true) := fun a b => cell_later (al2 a b) (hM.cell 8)
  have s9 : ∀ a b, ((w.alloc a).alloc b).cell? ⟨mb, 9, none⟩ = some (.bool true) := fun a b => cell_later (al2 a b) (hM.cell 9)
  have HZ : Hid (∀ W, Below w.heap.size w W → Zs W p4 p6) := fun W hb => hz.later hb
  have HP4 := Hid.mk'' hP4
  have HP6 := Hid.mk'' hP6
  have HL4 := Hid.mk'' hL4
  have HSP := Hid.mk'' hSP
  have HSL := Hid.mk'' hSL
  have HF : Hid (∀ W, Below w.heap.size w W → F.answers W.tape) := fun W hb => by rw [hb.tape]; exact hF
  clear hz hM hP4 hP6 hSP hSL hF hL4
  go_enter Tryf.func6, Tryf.ntmps6
  go_wp2_with fail
  obtain ⟨W, hW⟩ : ∃ W, W = (w.alloc (.cells Z4 40)).alloc (.cells (recOf ts 7 (.slice none 0 0)) 40) := ⟨_, rfl⟩
  have HR : Hid (Rf w W ts 7 (.slice none 0 0) []) := by rw [Hid, hW]; exact Rf.mk2 _ _ _
  rw [← hW]
  clear hW s8 s9 al2
  have c0 : W.cell? ⟨mb, 0, none⟩ = some (.int .u32 pa) := (HM.out _ HR.out.below).cell 0
  go_region_held3 (fun w' => w'.cell? ⟨mb, 0, none⟩ = some (.int .u32 pa)) ((first | go_keep | exact ext_keep0 ‹Ext _ _ _ _› c0)) ((first
    | (go_at_call 11; refine (app32_any pa (w.heap.size + 2) _ [] _ hpa (by exact HR.out.row) (by exact HR.out.size) (by simp)).mono ?_; rintro e w3 ⟨v3, rfl, hO3, hE3, -⟩)
    | fail))
  have HR3 : Hid (Rf w w3 ts 7 v3 (b4 pa)) := HR.out.drew.ext hE3 (by simpa using hO3)
  have c1 : w3.cell? ⟨mb, 1, none⟩ = some (.int .u32 la) := (HM.out _ HR3.out.below).cell 1
  clear c0 hO3 hE3 HR
  go_wp2_with fail
  go_region_held3 (fun w' => w'.cell? ⟨mb, 1, none⟩ = some (.int .u32 la)) ((first | go_keep | exact ext_keep ‹Ext _ _ _ _› c1 (HR3.out.own (i := mb) (by omega)))) ((first
    | (go_at_call 11; refine (app32_any la (w.heap.size + 2) _ (b4 pa) _ hla (by exact HR3.out.row) (by exact HR3.out.size) (by simp [b4])).mono ?_; rintro e w5 ⟨v5, rfl, hO5, hE5, -⟩)
    | fail))
  have HR5 : Hid (Rf w w5 ts 7 v5 (b4 pa ++ b4 la)) := HR3.out.drew.ext hE5 hO5
  clear c1 hO5 hE5 HR3
  have SX : Hid (∀ W, Below w.heap.size w W → W.cell? ⟨mb, 2, none⟩ = some (.int .u64 hp) ∧ W.cell? ⟨mb, 3, none⟩ = some (.int .u64 lp) ∧ W.cell? ⟨mb, 4, none⟩ = some (.pointer zp) ∧ W.cell? ⟨mb, 5, none⟩ = some (.int .u64 hl) ∧ W.cell? ⟨mb, 6, none⟩ = some (.int .u64 ll) ∧ W.cell? ⟨mb, 7, none⟩ = some (.pointer zl)) :=
    fun W hb => ⟨(HM.out W hb).cell 2, (HM.out W hb).cell 3, (HM.out W hb).cell 4, (HM.out W hb).cell 5, (HM.out W hb).cell 6, (HM.out W hb).cell 7⟩
  obtain ⟨c2, c3, c4, c5, c6, c7⟩ := SX.out _ HR5.out.below
  unfold AV IsB at *
  go_wp2_with (first
    | (go_at_call 15; go_must (refine (HP6.out _ (HZ.out _ HR62.out.below)).mono ?_); rintro e w7 ⟨rfl, hb'⟩; have HR7 : Hid (Rf w w7 ts 7 v5 (b4 pa ++ b4 la)) := HR62.out.later hb'; obtain ⟨c2, c3, c4, c5, c6, c7⟩ := SX.out _ HR7.out.below; clear hb')
    | (go_at_call 14; have _tok := HR61; go_must (refine (HL4.out _ (HZ.out _ HR61.out.below)).mono ?_); rintro e w62 ⟨rfl, hb'⟩; have HR62 : Hid (Rf w w62 ts 7 v5 (b4 pa ++ b4 la)) := HR61.out.later hb'; obtain ⟨c2, c3, c4, c5, c6, c7⟩ := SX.out _ HR62.out.below; clear hb')
    | (go_at_call 14; go_must (refine (HP4.out _ (HZ.out _ HR5.out.below)).mono ?_); rintro e w61 ⟨rfl, hb'⟩; have HR61 : Hid (Rf w w61 ts 7 v5 (b4 pa ++ b4 la)) := HR5.out.later hb'; obtain ⟨c2, c3, c4, c5, c6, c7⟩ := SX.out _ HR61.out.below; clear hb')
    | fail)
  have hs7 := HR7.out.size
  have HBx : Hid (∀ a, Below w.heap.size w (w7.alloc a).drew) := fun a => below_drew (HR7.out.below.alloc HR7.out.below.size a)
  go_region_held3 (fun w' => w'.cell? ⟨mb, 2, none⟩ = some (.int .u64 hp) ∧ w'.cell? ⟨mb, 3, none⟩ = some (.int .u64 lp) ∧ w'.cell? ⟨mb, 4, none⟩ = some (.pointer zp) ∧ w'.cell? ⟨mb, 5, none⟩ = some (.int .u64 hl) ∧ w'.cell? ⟨mb, 6, none⟩ = some (.int .u64 ll) ∧ w'.cell? ⟨mb, 7, none⟩ = some (.pointer zl)) ((first | go_keep | exact SX.out _ HR9.out.below | exact SX.out _ (HBx.out _) | exact SX.out _ HRS.out)) ((first
    | (go_at_call 12; refine (errorf_addr F _ _ w7.heap.size _ (by exact HF.out _ (HBx.out _)) (fun W hb => by exact HSP.out _ (HZ.out _ ((HBx.out _).trans (hb.mono (HBx.out _).size)))) (fun W hb => by exact HSL.out _ (HZ.out _ ((HBx.out _).trans (hb.mono (HBx.out _).size)))) (by exact (Blk.new w7 _ _).cell 0) (by exact (Blk.new w7 _ _).cell 1)).mono ?_; rintro e w9 ⟨a9, rfl, hb9⟩; have HR9 : Hid (Rf w w9 ts 7 v5 (b4 pa ++ b4 la)) := ((HR7.out.later ((Below.refl _ _).alloc (Nat.le_refl _) _)).drew.later hb9); have j0 : w9.cell? ⟨w.heap.size, 0, none⟩ = some (.int .u32 0) := HR9.out.r0.cell 0; have j1 : w9.cell? ⟨w.heap.size, 1, none⟩ = some (.int .u16 0) := HR9.out.r0.cell 1; have j2 : w9.cell? ⟨w.heap.size, 2, none⟩ = some (.int .u16 0) := HR9.out.r0.cell 2; have j3 : w9.cell? ⟨w.heap.size, 3, none⟩ = some (.slice none 0 0) := HR9.out.r0.cell 3; have f0 := HR9.out.r0.frozen; have HRS := Hid.mk'' (((((HR9.out.kept.set (k := 0) (.inl (.inl rfl)) (.int .u32 0)).set (k := 1) (.inl (.inl rfl)) (.int .u16 0)).set (k := 2) (.inl (.inl rfl)) (.int .u16 0)).set (k := 3) (.inl (.inl rfl)) (.slice none 0 0)).below (Nat.le_refl _) (fun i q => by rcases q with q | q <;> omega)))
    | fail))
  have HB9 := Hid.mk'' ((((HR9.out.r0.set 0 (.int .u32 0)).set 1 (.int .u16 0)).set 2 (.int .u16 0)).set 3 (.slice none 0 0))
  go_wp2
  refine bodyPost_ret (v := .tuple #[.agg Z4, .iface 77 (.pointer (some a9))]) (by simp [results, Tryf.results6, go_sem, HB9.out.cell]) rfl ?_
  exact ⟨a9, rfl, HRS.out⟩

set_option maxRecDepth 100000 in
set_option maxHeartbeats 4000000 in
theorem fail_tt6 (F : Interp) (mb : Nat) (pa la hp lp hl ll : Nat) (zp zl : Option Addr) (d : Value) (ts : Int) (p4 p6 : Addr) (w : World) (hF : F.answers w.tape) (hz : Zs w p4 p6) (hM : Blk w mb 36 (msgOf pa la hp lp zp hl ll zl true true d)) (hpa : pa < 4294967296) (hla : la < 4294967296)
    (hP4 : IsB 14 false p4 p6 (AV hp lp zp)) (hP6 : IsB 15 true p4 p6 (AV hp lp zp)) (hL6 : IsB 15 false p4 p6 (AV hl ll zl)) (hSP : ∀ W, Zs W p4 p6 → Calls Tryf.prog 22 #[AV hp lp zp] W (Texted W)) (hSL : ∀ W, Zs W p4 p6 → Calls Tryf.prog 22 #[AV hl ll zl] W (Texted W)) :
    Calls Tryf.prog 6 #[.pointer (some ⟨mb, 0, none⟩), .int .u32 ts] w (NotRecorded w) := by
  obtain ⟨i0, hi, hz0, hz1, hz2⟩ := info_parts Tryf.info5
  have hm := hM.lt
  have HM : Hid (∀ W, Below w.heap.size w W → Blk W mb 36 (msgOf pa la hp lp zp hl ll zl true true d)) := fun W hb => (hb.block _ hM.lt).trans hM
  have al2 : ∀ a b, Below w.heap.size w ((w.alloc a).alloc b) := fun a b => ((Below.refl _ _).alloc (Nat.le_refl _) _).alloc (by simp) _
  have s8 : ∀ a b, ((w.alloc a).alloc b).cell? ⟨mb, 8, none⟩ = some (.bool true) := fun a b => cell_later (al2 a b) (hM.cell 8)
  have s9 : ∀ a b, ((w.alloc a).alloc b).cell? ⟨mb, 9, none⟩ = some (.bool true) := fun a b => cell_later (al2 a b) (hM.cell 9)
  have HZ : Hid (∀ W, Below w.heap.size w W → Zs W p4 p6) := fun W hb => hz.later hb
  have HP4 := Hid.mk'' hP4
  have HP6 := Hid.mk'' hP6
  have HL6 := Hid.mk'' hL6
  have HSP := Hid.mk'' hSP
  have HSL := Hid.mk'' hSL
  have HF : Hid (∀ W, Below w.heap.size w W → F.answers W.tape) := fun W hb => by rw [hb.tape]; exact hF
  clear hz hM hP4 hP6 hSP hSL hF hL6
  go_enter Tryf.func6, Tryf.ntmps6
  go_wp2_with fail
  obtain ⟨W, hW⟩ : ∃ W, W = (w.alloc (.cells Z4 40)).alloc (.cells (recOf ts 7 (.slice none 0 0)) 40) := ⟨_, rfl⟩
  have HR : Hid (Rf w W ts 7 (.slice none 0 0) []) := by rw [Hid, hW]; exact Rf.mk2 _ _ _
  rw [← hW]
  clear hW s8 s9 al2
  have c0 : W.cell? ⟨mb, 0, none⟩ = some (.int .u32 pa) := (HM.out _ HR.out.below).cell 0
  go_region_held3 (fun w' => w'.cell? ⟨mb, 0, none⟩ = some (.int .u32 pa)) ((first | go_keep | exact ext_keep0 ‹Ext _ _ _ _› c0)) ((first
    | (go_at_call 11; refine (app32_any pa (w.heap.size + 2) _ [] _ hpa (by exact HR.out.row) (by exact HR.out.size) (by simp)).mono ?_; rintro e w3 ⟨v3, rfl, hO3, hE3, -⟩)
    | fail))
  have HR3 : Hid (Rf w w3 ts 7 v3 (b4 pa)) := HR.out.drew.ext hE3 (by simpa using hO3)
  have c1 : w3.cell? ⟨mb, 1, none⟩ = some (.int .u32 la) := (HM.out _ HR3.out.below).cell 1
  clear c0 hO3 hE3 HR
  go_wp2_with fail
  go_region_held3 (fun w' => w'.cell? ⟨mb, 1, none⟩ = some (.int .u32 la)) ((first | go_keep | exact ext_keep ‹Ext _ _ _ _› c1 (HR3.out.own (i := mb) (by omega)))) ((first
    | (go_at_call 11; refine (app32_any la (w.heap.size + 2) _ (b4 pa) _ hla (by exact HR3.out.row) (by exact HR3.out.size) (by simp [b4])).mono ?_; rintro e w5 ⟨v5, rfl, hO5, hE5, -⟩)
    | fail))
  have HR5 : Hid (Rf w w5 ts 7 v5 (b4 pa ++ b4 la)) := HR3.out.drew.ext hE5 hO5
  clear c1 hO5 hE5 HR3
  have SX : Hid (∀ W, Below w.heap.size w W → W.cell? ⟨mb, 2, none⟩ = some (.int .u64 hp) ∧ W.cell? ⟨mb, 3, none⟩ = some (.int .u64 lp) ∧ W.cell? ⟨mb, 4, none⟩ = some (.pointer zp) ∧ W.cell? ⟨mb, 5, none⟩ = some (.int .u64 hl) ∧ W.cell? ⟨mb, 6, none⟩ = some (.int .u64 ll) ∧ W.cell? ⟨mb, 7, none⟩ = some (.pointer zl)) :=
    fun W hb => ⟨(HM.out W hb).cell 2, (HM.out W hb).cell 3, (HM.out W hb).cell 4, (HM.out W hb).cell 5, (HM.out W hb).cell 6, (HM.out W hb).cell 7⟩
  obtain ⟨c2, c3, c4, c5, c6, c7⟩ := SX.out _ HR5.out.below
  unfold AV IsB at *
  go_wp2_with (first
    | (go_at_call 14; go_must (refine (HP4.out _ (HZ.out _ HR5.out.below)).mono ?_); rintro e w61 ⟨rfl, hb'⟩; have HR61 : Hid (Rf w w61 ts 7 v5 (b4 pa ++ b4 la)) := HR5.out.later hb'; obtain ⟨c2, c3, c4, c5, c6, c7⟩ := SX.out _ HR61.out.below; clear hb')
    | (go_at_call 15; have _tok := HR62; go_must (refine (HL6.out _ (HZ.out _ HR62.out.below)).mono ?_); rintro e w7 ⟨rfl, hb'⟩; have HR7 : Hid (Rf w w7 ts 7 v5 (b4 pa ++ b4 la)) := HR62.out.later hb'; obtain ⟨c2, c3, c4, c5, c6, c7⟩ := SX.out _ HR7.out.below; clear hb')
    | (go_at_call 15; go_must (refine (HP6.out _ (HZ.out _ HR61.out.below)).mono ?_); rintro e w62 ⟨rfl, hb'⟩; have HR62 : Hid (Rf w w62 ts 7 v5 (b4 pa ++ b4 la)) := HR61.out.later hb'; obtain ⟨c2, c3, c4, c5, c6, c7⟩ := SX.out _ HR62.out.below; clear hb')
    | fail)
  have hs7 := HR7.out.size
  have HBx : Hid (∀ a, Below w.heap.size w (w7.alloc a).drew) := fun a => below_drew (HR7.out.below.alloc HR7.out.below.size a)
  go_region_held3 (fun w' => w'.cell? ⟨mb, 2, none⟩ = some (.int .u64 hp) ∧ w'.cell? ⟨mb, 3, none⟩ = some (.int .u64 lp) ∧ w'.cell? ⟨mb, 4, none⟩ = some (.pointer zp) ∧ w'.cell? ⟨mb, 5, none⟩ = some (.int .u64 hl) ∧ w'.cell? ⟨mb, 6, none⟩ = some (.int .u64 ll) ∧ w'.cell? ⟨mb, 7, none⟩ = some (.pointer zl)) ((first | go_keep | exact SX.out _ HR9.out.below | exact SX.out _ (HBx.out _) | exact SX.out _ HRS.out)) ((first
    | (go_at_call 12; refine (errorf_addr F _ _ w7.heap.size _ (by exact HF.out _ (HBx.out _)) (fun W hb => by exact HSP.out _ (HZ.out _ ((HBx.out _).trans (hb.mono (HBx.out _).size)))) (fun W hb => by exact HSL.out _ (HZ.out _ ((HBx.out _).trans (hb.mono (HBx.out _).size)))) (by exact (Blk.new w7 _ _).cell 0) (by exact (Blk.new w7 _ _).cell 1)).mono ?_; rintro e w9 ⟨a9, rfl, hb9⟩; have HR9 : Hid (Rf w w9 ts 7 v5 (b4 pa ++ b4 la)) := ((HR7.out.later ((Below.refl _ _).alloc (Nat.le_refl _) _)).drew.later hb9); have j0 : w9.cell? ⟨w.heap.size, 0, none⟩ = some (.int .u32 0) := HR9.out.r0.cell 0; have j1 : w9.cell? ⟨w.heap.size, 1, none⟩ = some (.int .u16 0) := HR9.out.r0.cell 1; have j2 : w9.cell? ⟨w.heap.size, 2, none⟩ = some (.int .u16 0) := HR9.out.r0.cell 2; have j3 : w9.cell? ⟨w.heap.size, 3, none⟩ = some (.slice none 0 0) := HR9.out.r0.cell 3; have f0 := HR9.out.r0.frozen; have HRS := Hid.mk'' (((((HR9.out.kept.set (k := 0) (.inl (.inl rfl)) (.int .u32 0)).set (k := 1) (.inl (.inl rfl)) (.int .u16 0)).set (k := 2) (.inl (.inl rfl)) (.int .u16 0)).set (k := 3) (.inl (.inl rfl)) (.slice none 0 0)).below (Nat.le_refl _) (fun i q => by rcases q with q | q <;> omega)))
    | fail))
  have HB9 := Hid.mk'' ((((HR9.out.r0.set 0 (.int .u32 0)).set 1 (.int .u16 0)).set 2 (.int .u16 0)).set 3 (.slice none 0 0))
  go_wp2
  refine bodyPost_ret (v := .tuple #[.agg Z4, .iface 77 (.pointer (some a9))]) (by simp [results, Tryf.results6, go_sem, HB9.out.cell]) rfl ?_
  exact ⟨a9, rfl, HRS.out⟩

end Go.Proofs.Qxb6003778aFmt
