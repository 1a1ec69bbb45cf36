import Derived.Test.Qxb6003778aFmtReA
namespace Go.Proofs.Qxb6003778aFmt
open Go.RowKit
set_option linter.unusedVariables false
set_option linter.unusedSimpArgs false

set_option maxRecDepth 100000 in
set_option maxHeartbeats 4000000 in
theorem record_ft6 (mb : Nat) (pa la hp lp hl ll : Nat) (da : Option Addr) (dat : List UInt8) (dc : Nat) (ts : Int) (p4 p6 : Addr) (w : World) (hz : Zs w p4 p6) (hM : Blk w mb 36 (msgOf pa la hp lp (some p6) hl ll (some p6) false true (.slice da dat.length dc))) (hpa : pa < 4294967296) (hla : la < 4294967296) (hD : View w da (bc dat)) (hdn : da = none → dat = []) (hdl : dat.length ≤ 1073741824) (hhp : hp < 18446744073709551616) (hlp : lp < 18446744073709551616) (hhl : hl < 18446744073709551616) (hll : ll < 18446744073709551616) :
    Calls Tryf.prog 6 #[.pointer (some ⟨mb, 0, none⟩), .int .u32 ts] w (Recorded ts 4 (b4 pa ++ b4 la ++ [0, 0] ++ be16 2 ++ (b8 hp ++ b8 lp) ++ (b8 hl ++ b8 ll) ++ dat) w) := by
  obtain ⟨i0, hi, hz0, hz1, hz2⟩ := info_parts Tryf.info5
  have hm := hM.lt
  have HM : Hid (∀ W, Below w.heap.size w W → Blk W mb 36 (msgOf pa la hp lp (some p6) hl ll (some p6) false true (.slice da dat.length dc))) := fun W hb => (hb.block _ hM.lt).trans hM
  have al2 : ∀ a b, Below w.heap.size w ((w.alloc a).alloc b) := fun a b => ((Below.refl _ _).alloc (Nat.le_refl _) _).alloc (by simp) _
  have s8 : ∀ a b, ((w.alloc a).alloc b).cell? ⟨mb, 8, none⟩ = some (.bool false) := fun a b => cell_later (al2 a b) (hM.cell 8)
  have s9 : ∀ a b, ((w.alloc a).alloc b).cell? ⟨mb, 9, none⟩ = some (.bool true) := fun a b => cell_later (al2 a b) (hM.cell 9)
  have HZ : Hid (∀ W, Below w.heap.size w W → Zs W p4 p6) := fun W hb => hz.later hb
  have HD : Hid (View w da (bc dat)) := hD
  have HDn : Hid (da = none → dat = []) := hdn
  clear hz hM hD hdn
  go_enter Tryf.func6, Tryf.ntmps6
  go_wp2_with fail
  obtain ⟨W, hW⟩ : ∃ W, W = (w.alloc (.cells Z4 40)).alloc (.cells (recOf ts 4 (.slice none 0 0)) 40) := ⟨_, rfl⟩
  have HR : Hid (Rf w W ts 4 (.slice none 0 0) []) := by rw [Hid, hW]; exact Rf.mk2 _ _ _
  rw [← hW]
  clear hW s8 s9 al2
  have c0 : W.cell? ⟨mb, 0, none⟩ = some (.int .u32 pa) := (HM.out _ HR.out.below).cell 0
  go_region_held3 (fun w' => w'.cell? ⟨mb, 0, none⟩ = some (.int .u32 pa)) ((first | go_keep | exact ext_keep0 ‹Ext _ _ _ _› c0)) ((first
    | (go_at_call 11; refine (app32_any pa (w.heap.size + 2) _ [] _ hpa (by exact HR.out.row) (by exact HR.out.size) (by simp)).mono ?_; rintro e w3 ⟨v3, rfl, hO3, hE3, -⟩)
    | fail))
  have HR3 : Hid (Rf w w3 ts 4 v3 (b4 pa)) := HR.out.drew.ext hE3 (by simpa using hO3)
  have c1 : w3.cell? ⟨mb, 1, none⟩ = some (.int .u32 la) := (HM.out _ HR3.out.below).cell 1
  clear c0 hO3 hE3 HR
  go_wp2_with fail
  go_region_held3 (fun w' => w'.cell? ⟨mb, 1, none⟩ = some (.int .u32 la)) ((first | go_keep | exact ext_keep ‹Ext _ _ _ _› c1 (HR3.out.own (i := mb) (by omega)))) ((first
    | (go_at_call 11; refine (app32_any la (w.heap.size + 2) _ (b4 pa) _ hla (by exact HR3.out.row) (by exact HR3.out.size) (by simp [b4])).mono ?_; rintro e w5 ⟨v5, rfl, hO5, hE5, -⟩)
    | fail))
  have HR5 : Hid (Rf w w5 ts 4 v5 (b4 pa ++ b4 la)) := HR3.out.drew.ext hE5 hO5
  clear c1 hO5 hE5 HR3
  have c2 : w5.cell? ⟨mb, 2, none⟩ = some (.int .u64 hp) := (HM.out _ HR5.out.below).cell 2
  have c3 : w5.cell? ⟨mb, 3, none⟩ = some (.int .u64 lp) := (HM.out _ HR5.out.below).cell 3
  have c4 : w5.cell? ⟨mb, 4, none⟩ = some (.pointer (some p6)) := (HM.out _ HR5.out.below).cell 4
  go_wp2_with (first
    | (go_at_call 14; go_must (refine (is4_six hp lp p4 p6 _ (by exact HZ.out _ HR5.out.below)).mono ?_); rintro e w6 ⟨rfl, hb6'⟩; have HR6 : Hid (Rf w w6 ts 4 v5 (b4 pa ++ b4 la)) := HR5.out.later hb6'; have x2 : w6.cell? ⟨mb, 2, none⟩ = some (.int .u64 hp) := (HM.out _ HR6.out.below).cell 2; have x3 : w6.cell? ⟨mb, 3, none⟩ = some (.int .u64 lp) := (HM.out _ HR6.out.below).cell 3; have x4 : w6.cell? ⟨mb, 4, none⟩ = some (.pointer (some p6)) := (HM.out _ HR6.out.below).cell 4; clear hb6')
    | (go_at_call 15; have _tok := HR66; go_must (refine (is6_six hl ll p4 p6 _ (by exact HZ.out _ HR66.out.below)).mono ?_); rintro e w7 ⟨rfl, hb7'⟩; have HR7 : Hid (Rf w w7 ts 4 v5 (b4 pa ++ b4 la)) := HR66.out.later hb7'; clear hb7')
    | (go_at_call 15; go_must (refine (is6_six hp lp p4 p6 _ (by exact HZ.out _ HR6.out.below)).mono ?_); rintro e w66 ⟨rfl, hb66'⟩; have HR66 : Hid (Rf w w66 ts 4 v5 (b4 pa ++ b4 la)) := HR6.out.later hb66'; have c5 : w66.cell? ⟨mb, 5, none⟩ = some (.int .u64 hl) := (HM.out _ HR66.out.below).cell 5; have c6 : w66.cell? ⟨mb, 6, none⟩ = some (.int .u64 ll) := (HM.out _ HR66.out.below).cell 6; have c7 : w66.cell? ⟨mb, 7, none⟩ = some (.pointer (some p6)) := (HM.out _ HR66.out.below).cell 7; clear hb66')
    | fail)
  have hs7 := HR7.out.size
  go_region_held3 (fun _ => True) (trivial) ((first
    | (go_at_call 13; refine (app16_any 2 (w.heap.size + 2) _ (b4 pa ++ b4 la ++ [0, 0]) _ (by omega) (by omega) (by exact OB.app hown8 rfl) (by have := hext8.size; simp at this; omega) (by simp [b4])).mono ?_; rintro e w9 ⟨v9, rfl, hO9, hE9, -⟩)
    | (refine step_append_any _ (by rfl) (.tmp 136) (.tmp 137) 24 24 (by rfl) (w.heap.size + 2) 5 i0 (.int .u8 0) 1 1 Tryf.underlying24 hi hz0 hz1 hz2 rfl _ (b4 pa ++ b4 la).length (bc (b4 pa ++ b4 la)) (by rfl) (by exact HR7.out.row.alloc _) _ 2 (bc [0, 0]) (by rfl) (Src.litHD _ Tryf.underlying24 [0, 0] _ 2 2 5 w7.heap.size (by simp) rfl rfl) (by unfold maxLen; simp [b4]) (by simp [b4]) (by simp; omega) ?_; intro v8 w8 hown8 hext8 _ _)
    | fail))
  have HR9 : Hid (Rf w w9 ts 4 v9 (b4 pa ++ b4 la ++ [0, 0] ++ be16 2)) := ((HR7.out.later ((Below.refl _ _).alloc (Nat.le_refl _) (.cells #[.int .u8 0, .int .u8 0] 5))).drew.ext hext8 (OB.app hown8 rfl)).ext hE9 hO9
  clear hown8 hext8 hE9 hO9 HR7 HR66 HR6 HR5 c2 c3 c4 x2 x3 x4 c5 c6 c7 hs7
  go_wp2_with fail
  have SX : Hid (∀ W, Below w.heap.size w W → W.cell? ⟨mb, 2, none⟩ = some (.int .u64 hp) ∧ W.cell? ⟨mb, 3, none⟩ = some (.int .u64 lp) ∧ W.cell? ⟨mb, 4, none⟩ = some (.pointer (some p6)) ∧ W.cell? ⟨mb, 5, none⟩ = some (.int .u64 hl) ∧ W.cell? ⟨mb, 6, none⟩ = some (.int .u64 ll) ∧ W.cell? ⟨mb, 7, none⟩ = some (.pointer (some p6))) :=
    fun W hb => ⟨(HM.out W hb).cell 2, (HM.out W hb).cell 3, (HM.out W hb).cell 4, (HM.out W hb).cell 5, (HM.out W hb).cell 6, (HM.out W hb).cell 7⟩
  obtain ⟨c2, c3, c4, c5, c6, c7⟩ := SX.out w9 HR9.out.below
  go_region_held3 (fun w' => w'.cell? ⟨mb, 2, none⟩ = some (.int .u64 hp) ∧ w'.cell? ⟨mb, 3, none⟩ = some (.int .u64 lp) ∧ w'.cell? ⟨mb, 4, none⟩ = some (.pointer (some p6)) ∧ w'.cell? ⟨mb, 5, none⟩ = some (.int .u64 hl) ∧ w'.cell? ⟨mb, 6, none⟩ = some (.int .u64 ll) ∧ w'.cell? ⟨mb, 7, none⟩ = some (.pointer (some p6))) ((first | go_keep | exact SX.out _ HR13.out.below | exact SX.out _ HR12.out.below | exact SX.out _ HR11.out.below | exact SX.out _ HR10.out.below)) ((first
    | (go_at_call 16; have _tok := HR11; refine (as_six hl ll p4 p6 _ (by exact HZ.out _ HR11.out.below) hhl hll).mono ?_; rintro e w12 ⟨a12, rfl, hV12, hn12, hp12, hb12⟩; have HR12 : Hid (Rf w w12 ts 4 v11 ((b4 pa ++ b4 la ++ [0, 0] ++ be16 2) ++ (b8 hp ++ b8 lp))) := HR11.out.later hb12)
    | (go_at_call 16; refine (as_six hp lp p4 p6 _ (by exact HZ.out _ HR9.out.drew.below) hhp hlp).mono ?_; rintro e w10 ⟨a10, rfl, hV10, hn10, hp10, hb10⟩; have HR10 : Hid (Rf w w10 ts 4 v9 (b4 pa ++ b4 la ++ [0, 0] ++ be16 2)) := HR9.out.drew.later hb10)
    | (have _tok := HR12; refine step_append_any _ (by rfl) (.tmp 147) (.tmp 152) 24 24 (by rfl) (w.heap.size + 2) 5 i0 (.int .u8 0) 1 1 Tryf.underlying24 hi hz0 hz1 hz2 rfl _ _ _ (by rfl) (by exact HR12.out.row) _ ((b8 hl ++ b8 ll)).length (bc ((b8 hl ++ b8 ll))) (by rfl) (Src.view _ Tryf.underlying24 a12 ((b8 hl ++ b8 ll)) _ hV12 hn12) (by unfold maxLen; simp [b4, b8, be16]) (by simp [b4, b8, be16]) (by exact HR12.out.size) ?_; intro v13 w13 hown13 hext13 _ _; have HR13 : Hid (Rf w w13 ts 4 v13 ((b4 pa ++ b4 la ++ [0, 0] ++ be16 2) ++ (b8 hp ++ b8 lp) ++ (b8 hl ++ b8 ll))) := HR12.out.ext hext13 (OB.app hown13 rfl))
    | (refine step_append_any _ (by rfl) (.tmp 141) (.tmp 146) 24 24 (by rfl) (w.heap.size + 2) 5 i0 (.int .u8 0) 1 1 Tryf.underlying24 hi hz0 hz1 hz2 rfl _ _ _ (by rfl) (by exact HR10.out.row) _ ((b8 hp ++ b8 lp)).length (bc ((b8 hp ++ b8 lp))) (by rfl) (Src.view _ Tryf.underlying24 a10 ((b8 hp ++ b8 lp)) _ hV10 hn10) (by unfold maxLen; simp [b4, b8, be16]) (by simp [b4, b8, be16]) (by exact HR10.out.size) ?_; intro v11 w11 hown11 hext11 _ _; have HR11 : Hid (Rf w w11 ts 4 v11 ((b4 pa ++ b4 la ++ [0, 0] ++ be16 2) ++ (b8 hp ++ b8 lp))) := HR10.out.ext hext11 (OB.app hown11 rfl))
    | fail))
  have HD13 : Hid (View w13 da (bc dat)) := HD.out.all HR13.out.below
  have c10 : w13.cell? ⟨mb, 10, none⟩ = some (.slice da dat.length dc) := (HM.out _ HR13.out.below).cell 10
  clear hb10 hb12 hown11 hext11 hown13 hext13 hV10 hV12 hn10 hn12 hp10 hp12 HR12 HR11 HR10 HR9 c2 c3 c4 c5 c6 c7 SX HD
  go_wp2_with (first
    | (at_builtin; go_must (refine wpList_append_any _ rfl (.tmp 154) (.tmp 158) 24 24 rfl (w.heap.size + 2) 5 i0 (.int .u8 0) 1 1 Tryf.underlying24 hi hz0 hz1 hz2 rfl _ _ _ rfl HR13.out.row _ dat.length (bc dat) rfl (Src.view _ Tryf.underlying24 da dat dc HD13.out HDn.out) (by unfold maxLen; simp [b4, b8, be16]; omega) (by simp [b4, b8, be16]; omega) HR13.out.size ?_); intro v15 w15 hown15 hext15 _ _; have HR15 : Hid (Rf w w15 ts 4 v15 (b4 pa ++ b4 la ++ [0, 0] ++ be16 2 ++ (b8 hp ++ b8 lp) ++ (b8 hl ++ b8 ll) ++ dat)) := HR13.out.ext hext15 (OB.app hown15 rfl); clear hown15 hext15; obtain ⟨g, c, hv15, hV15', hl15, hc15⟩ := HR15.out.row.shape (by simp [b4, b8]); have HV15 : Hid (View w15 (some ⟨g, 0, none⟩) (bc (b4 pa ++ b4 la ++ [0, 0] ++ be16 2 ++ (b8 hp ++ b8 lp) ++ (b8 hl ++ b8 ll) ++ dat))) := hV15'; subst hv15; have HG : Hid (w.heap.size + 2 ≤ g) := (HR15.out.row.lt g rfl).1; obtain ⟨N, hN⟩ : ∃ N, N = (b4 pa ++ b4 la ++ [0, 0] ++ be16 2 ++ (b8 hp ++ b8 lp) ++ (b8 hl ++ b8 ll) ++ dat).length := ⟨_, rfl⟩; rw [← hN]; have HN : Hid (N = (b4 pa ++ b4 la ++ [0, 0] ++ be16 2 ++ (b8 hp ++ b8 lp) ++ (b8 hl ++ b8 ll) ++ dat).length) := hN; have k3 : w15.cell? ⟨w.heap.size + 1, 3, none⟩ = some (.slice none 0 0) := HR15.out.r1.cell 3; have k0 : w15.cell? ⟨w.heap.size + 1, 0, none⟩ = some (.int .u32 ts) := HR15.out.r1.cell 0; have k1 : w15.cell? ⟨w.heap.size + 1, 1, none⟩ = some (.int .u16 16) := HR15.out.r1.cell 1; have k2 : w15.cell? ⟨w.heap.size + 1, 2, none⟩ = some (.int .u16 4) := HR15.out.r1.cell 2; have j0 : w15.cell? ⟨w.heap.size, 0, none⟩ = some (.int .u32 0) := HR15.out.r0.cell 0; have j1 : w15.cell? ⟨w.heap.size, 1, none⟩ = some (.int .u16 0) := HR15.out.r0.cell 1; have j2 : w15.cell? ⟨w.heap.size, 2, none⟩ = some (.int .u16 0) := HR15.out.r0.cell 2; have j3 : w15.cell? ⟨w.heap.size, 3, none⟩ = some (.slice none 0 0) := HR15.out.r0.cell 3; have f1 := HR15.out.r1.frozen; have f0 := HR15.out.r0.frozen; clear hV15' hN)
    | fail)
  have HB16 := Hid.mk' (((((HR15.out.r0.kept ((Kept.refl w15 (fun i => i = w.heap.size + 1)).set (k := 3) (.inl rfl) (.slice (some ⟨g, 0, none⟩) N c)) (by show ¬ w.heap.size = w.heap.size + 1; omega)).set 0 (.int .u32 ts)).set 1 (.int .u16 16)).set 2 (.int .u16 4)).set 3 (.slice (some ⟨g, 0, none⟩) N c))
  have HK16 := Hid.mk' (((((HR15.out.kept.set (k := 3) (.inl (.inr rfl)) (.slice (some ⟨g, 0, none⟩) N c)).set (k := 0) (.inl (.inl rfl)) (.int .u32 ts)).set (k := 1) (.inl (.inl rfl)) (.int .u16 16)).set (k := 2) (.inl (.inl rfl)) (.int .u16 4)).set (k := 3) (.inl (.inl rfl)) (.slice (some ⟨g, 0, none⟩) N c))
  have HV16 := Hid.mk' (HV15.out.kept ((((((Kept.refl w15 (fun i => i = w.heap.size ∨ i = w.heap.size + 1)).set (k := 3) (.inl (.inr rfl)) (.slice (some ⟨g, 0, none⟩) N c)).set (k := 0) (.inl (.inl rfl)) (.int .u32 ts)).set (k := 1) (.inl (.inl rfl)) (.int .u16 16)).set (k := 2) (.inl (.inl rfl)) (.int .u16 4)).set (k := 3) (.inl (.inl rfl)) (.slice (some ⟨g, 0, none⟩) N c)) (fun b o q => by cases q; have := HG.out; intro h; rcases h with h | h <;> omega))
  refine bodyPost_ret (v := .tuple #[.agg (recOf ts 4 (.slice (some ⟨g, 0, none⟩) N c)), .nilIface]) (by simp [results, Tryf.results6, go_sem, HB16.out.cell]) rfl ?_
  refine ⟨g, c, by rw [← HN.out], HV16.out, hl15, hc15, HK16.out.below (Nat.le_refl _) (fun i q => by rcases q with q | q <;> omega)⟩

set_option maxRecDepth 100000 in
set_option maxHeartbeats 4000000 in
theorem record_tt6 (mb : Nat) (pa la hp lp hl ll : Nat) (da : Option Addr) (dat : List UInt8) (dc : Nat) (ts : Int) (p4 p6 : Addr) (w : World) (hz : Zs w p4 p6) (hM : Blk w mb 36 (msgOf pa la hp lp (some p6) hl ll (some p6) true true (.slice da dat.length dc))) (hpa : pa < 4294967296) (hla : la < 4294967296) (hD : View w da (bc dat)) (hdn : da = none → dat = []) (hdl : dat.length ≤ 1073741824) (hhp : hp < 18446744073709551616) (hlp : lp < 18446744073709551616) (hhl : hl < 18446744073709551616) (hll : ll < 18446744073709551616) :
    Calls Tryf.prog 6 #[.pointer (some ⟨mb, 0, none⟩), .int .u32 ts] w (Recorded ts 7 (b4 pa ++ b4 la ++ [0, 0] ++ be16 2 ++ (b8 hp ++ b8 lp) ++ (b8 hl ++ b8 ll) ++ dat) w) := by
  obtain ⟨i0, hi, hz0, hz1, hz2⟩ := info_parts Tryf.info5
  have hm := hM.lt
  have HM : Hid (∀ W, Below w.heap.size w W → Blk W mb 36 (msgOf pa la hp lp (some p6) hl ll (some p6) true true (.slice da dat.length dc))) := fun W hb => (hb.block _ hM.lt).trans hM
  have al2 : ∀ a b, Below w.heap.size w ((w.alloc a).alloc b) := fun a b => ((Below.refl _ _).alloc (Nat.le_refl _) _).alloc (by simp) _
  have s8 : ∀ a b, ((w.alloc a).alloc b).cell? ⟨mb, 8, none⟩ = some (.bool true) := fun a b => cell_later (al2 a b) (hM.cell 8)
  have s9 : ∀ a b, ((w.alloc a).alloc b).cell? ⟨mb, 9, none⟩ = some (.bool true) := fun a b => cell_later (al2 a b) (hM.cell 9)
  have HZ : Hid (∀ W, Below w.heap.size w W → Zs W p4 p6) := fun W hb => hz.later hb
  have HD : Hid (View w da (bc dat)) := hD
  have HDn : Hid (da = none → dat = []) := hdn
  clear hz hM hD hdn
  go_enter Tryf.func6, Tryf.ntmps6
  go_wp2_with fail
  obtain ⟨W, hW⟩ : ∃ W, W = (w.alloc (.cells Z4 40)).alloc (.cells (recOf ts 7 (.slice none 0 0)) 40) := ⟨_, rfl⟩
  have HR : Hid (Rf w W ts 7 (.slice none 0 0) []) := by rw [Hid, hW]; exact Rf.mk2 _ _ _
  rw [← hW]
  clear hW s8 s9 al2
  have c0 : W.cell? ⟨mb, 0, none⟩ = some (.int .u32 pa) := (HM.out _ HR.out.below).cell 0
  go_region_held3 (fun w' => w'.cell? ⟨mb, 0, none⟩ = some (.int .u32 pa)) ((first | go_keep | exact ext_keep0 ‹Ext _ _ _ _› c0)) ((first
    | (go_at_call 11; refine (app32_any pa (w.heap.size + 2) _ [] _ hpa (by exact HR.out.row) (by exact HR.out.size) (by simp)).mono ?_; rintro e w3 ⟨v3, rfl, hO3, hE3, -⟩)
    | fail))
  have HR3 : Hid (Rf w w3 ts 7 v3 (b4 pa)) := HR.out.drew.ext hE3 (by simpa using hO3)
  have c1 : w3.cell? ⟨mb, 1, none⟩ = some (.int .u32 la) := (HM.out _ HR3.out.below).cell 1
  clear c0 hO3 hE3 HR
  go_wp2_with fail
  go_region_held3 (fun w' => w'.cell? ⟨mb, 1, none⟩ = some (.int .u32 la)) ((first | go_keep | exact ext_keep ‹Ext _ _ _ _› c1 (HR3.out.own (i := mb) (by omega)))) ((first
    | (go_at_call 11; refine (app32_any la (w.heap.size + 2) _ (b4 pa) _ hla (by exact HR3.out.row) (by exact HR3.out.size) (by simp [b4])).mono ?_; rintro e w5 ⟨v5, rfl, hO5, hE5, -⟩)
    | fail))
  have HR5 : Hid (Rf w w5 ts 7 v5 (b4 pa ++ b4 la)) := HR3.out.drew.ext hE5 hO5
  clear c1 hO5 hE5 HR3
  have c2 : w5.cell? ⟨mb, 2, none⟩ = some (.int .u64 hp) := (HM.out _ HR5.out.below).cell 2
  have c3 : w5.cell? ⟨mb, 3, none⟩ = some (.int .u64 lp) := (HM.out _ HR5.out.below).cell 3
  have c4 : w5.cell? ⟨mb, 4, none⟩ = some (.pointer (some p6)) := (HM.out _ HR5.out.below).cell 4
  go_wp2_with (first
    | (go_at_call 14; go_must (refine (is4_six hp lp p4 p6 _ (by exact HZ.out _ HR5.out.below)).mono ?_); rintro e w6 ⟨rfl, hb6'⟩; have HR6 : Hid (Rf w w6 ts 7 v5 (b4 pa ++ b4 la)) := HR5.out.later hb6'; have x2 : w6.cell? ⟨mb, 2, none⟩ = some (.int .u64 hp) := (HM.out _ HR6.out.below).cell 2; have x3 : w6.cell? ⟨mb, 3, none⟩ = some (.int .u64 lp) := (HM.out _ HR6.out.below).cell 3; have x4 : w6.cell? ⟨mb, 4, none⟩ = some (.pointer (some p6)) := (HM.out _ HR6.out.below).cell 4; clear hb6')
    | (go_at_call 15; have _tok := HR66; go_must (refine (is6_six hl ll p4 p6 _ (by exact HZ.out _ HR66.out.below)).mono ?_); rintro e w7 ⟨rfl, hb7'⟩; have HR7 : Hid (Rf w w7 ts 7 v5 (b4 pa ++ b4 la)) := HR66.out.later hb7'; clear hb7')
    | (go_at_call 15; go_must (refine (is6_six hp lp p4 p6 _ (by exact HZ.out _ HR6.out.below)).mono ?_); rintro e w66 ⟨rfl, hb66'⟩; have HR66 : Hid (Rf w w66 ts 7 v5 (b4 pa ++ b4 la)) := HR6.out.later hb66'; have c5 : w66.cell? ⟨mb, 5, none⟩ = some (.int .u64 hl) := (HM.out _ HR66.out.below).cell 5; have c6 : w66.cell? ⟨mb, 6, none⟩ = some (.int .u64 ll) := (HM.out _ HR66.out.below).cell 6; have c7 : w66.cell? ⟨mb, 7, none⟩ = some (.pointer (some p6)) := (HM.out _ HR66.out.below).cell 7; clear hb66')
    | fail)
  have hs7 := HR7.out.size
  go_region_held3 (fun _ => True) (trivial) ((first
    | (go_at_call 13; refine (app16_any 2 (w.heap.size + 2) _ (b4 pa ++ b4 la ++ [0, 0]) _ (by omega) (by omega) (by exact OB.app hown8 rfl) (by have := hext8.size; simp at this; omega) (by simp [b4])).mono ?_; rintro e w9 ⟨v9, rfl, hO9, hE9, -⟩)
    | (refine step_append_any _ (by rfl) (.tmp 136) (.tmp 137) 24 24 (by rfl) (w.heap.size + 2) 5 i0 (.int .u8 0) 1 1 Tryf.underlying24 hi hz0 hz1 hz2 rfl _ (b4 pa ++ b4 la).length (bc (b4 pa ++ b4 la)) (by rfl) (by exact HR7.out.row.alloc _) _ 2 (bc [0, 0]) (by rfl) (Src.litHD _ Tryf.underlying24 [0, 0] _ 2 2 5 w7.heap.size (by simp) rfl rfl) (by unfold maxLen; simp [b4]) (by simp [b4]) (by simp; omega) ?_; intro v8 w8 hown8 hext8 _ _)
    | fail))
  have HR9 : Hid (Rf w w9 ts 7 v9 (b4 pa ++ b4 la ++ [0, 0] ++ be16 2)) := ((HR7.out.later ((Below.refl _ _).alloc (Nat.le_refl _) (.cells #[.int .u8 0, .int .u8 0] 5))).drew.ext hext8 (OB.app hown8 rfl)).ext hE9 hO9
  clear hown8 hext8 hE9 hO9 HR7 HR66 HR6 HR5 c2 c3 c4 x2 x3 x4 c5 c6 c7 hs7
  go_wp2_with fail
  have SX : Hid (∀ W, Below w.heap.size w W → W.cell? ⟨mb, 2, none⟩ = some (.int .u64 hp) ∧ W.cell? ⟨mb, 3, none⟩ = some (.int .u64 lp) ∧ W.cell? ⟨mb, 4, none⟩ = some (.pointer (some p6)) ∧ W.cell? ⟨mb, 5, none⟩ = some (.int .u64 hl) ∧ W.cell? ⟨mb, 6, none⟩ = some (.int .u64 ll) ∧ W.cell? ⟨mb, 7, none⟩ = some (.pointer (some p6))) :=
    fun W hb => ⟨(HM.out W hb).cell 2, (HM.out W hb).cell 3, (HM.out W hb).cell 4, (HM.out W hb).cell 5, (HM.out W hb).cell 6, (HM.out W hb).cell 7⟩
  obtain ⟨c2, c3, c4, c5, c6, c7⟩ := SX.out w9 HR9.out.below
  go_region_held3 (fun w' => w'.cell? ⟨mb, 2, none⟩ = some (.int .u64 hp) ∧ w'.cell? ⟨mb, 3, none⟩ = some (.int .u64 lp) ∧ w'.cell? ⟨mb, 4, none⟩ = some (.pointer (some p6)) ∧ w'.cell? ⟨mb, 5, none⟩ = some (.int .u64 hl) ∧ w'.cell? ⟨mb, 6, none⟩ = some (.int .u64 ll) ∧ w'.cell? ⟨mb, 7, none⟩ = some (.pointer (some p6))) ((first | go_keep | exact SX.out _ HR13.out.below | exact SX.out _ HR12.out.below | exact SX.out _ HR11.out.below | exact SX.out _ HR10.out.below)) ((first
    | (go_at_call 16; have _tok := HR11; refine (as_six hl ll p4 p6 _ (by exact HZ.out _ HR11.out.below) hhl hll).mono ?_; rintro e w12 ⟨a12, rfl, hV12, hn12, hp12, hb12⟩; have HR12 : Hid (Rf w w12 ts 7 v11 ((b4 pa ++ b4 la ++ [0, 0] ++ be16 2) ++ (b8 hp ++ b8 lp))) := HR11.out.later hb12)
    | (go_at_call 16; refine (as_six hp lp p4 p6 _ (by exact HZ.out _ HR9.out.drew.below) hhp hlp).mono ?_; rintro e w10 ⟨a10, rfl, hV10, hn10, hp10, hb10⟩; have HR10 : Hid (Rf w w10 ts 7 v9 (b4 pa ++ b4 la ++ [0, 0] ++ be16 2)) := HR9.out.drew.later hb10)
    | (have _tok := HR12; refine step_append_any _ (by rfl) (.tmp 147) (.tmp 152) 24 24 (by rfl) (w.heap.size + 2) 5 i0 (.int .u8 0) 1 1 Tryf.underlying24 hi hz0 hz1 hz2 rfl _ _ _ (by rfl) (by exact HR12.out.row) _ ((b8 hl ++ b8 ll)).length (bc ((b8 hl ++ b8 ll))) (by rfl) (Src.view _ Tryf.underlying24 a12 ((b8 hl ++ b8 ll)) _ hV12 hn12) (by unfold maxLen; simp [b4, b8, be16]) (by simp [b4, b8, be16]) (by exact HR12.out.size) ?_; intro v13 w13 hown13 hext13 _ _; have HR13 : Hid (Rf w w13 ts 7 v13 ((b4 pa ++ b4 la ++ [0, 0] ++ be16 2) ++ (b8 hp ++ b8 lp) ++ (b8 hl ++ b8 ll))) := HR12.out.ext hext13 (OB.app hown13 rfl))
    | (refine step_append_any _ (by rfl) (.tmp 141) (.tmp 146) 24 24 (by rfl) (w.heap.size + 2) 5 i0 (.int .u8 0) 1 1 Tryf.underlying24 hi hz0 hz1 hz2 rfl _ _ _ (by rfl) (by exact HR10.out.row) _ ((b8 hp ++ b8 lp)).length (bc ((b8 hp ++ b8 lp))) (by rfl) (Src.view _ Tryf.underlying24 a10 ((b8 hp ++ b8 lp)) _ hV10 hn10) (by unfold maxLen; simp [b4, b8, be16]) (by simp [b4, b8, be16]) (by exact HR10.out.size) ?_; intro v11 w11 hown11 hext11 _ _; have HR11 : Hid (Rf w w11 ts 7 v11 ((b4 pa ++ b4 la ++ [0, 0] ++ be16 2) ++ (b8 hp ++ b8 lp))) := HR10.out.ext hext11 (OB.app hown11 rfl))
    | fail))
  have HD13 : Hid (View w13 da (bc dat)) := HD.out.all HR13.out.below
  have c10 : w13.cell? ⟨mb, 10, none⟩ = some (.slice da dat.length dc) := (HM.out _ HR13.out.below).cell 10
  clear hb10 hb12 hown11 hext11 hown13 hext13 hV10 hV12 hn10 hn12 hp10 hp12 HR12 HR11 HR10 HR9 c2 c3 c4 c5 c6 c7 SX HD
  go_wp2_with (first
    | (at_builtin; go_must (refine wpList_append_any _ rfl (.tmp 154) (.tmp 158) 24 24 rfl (w.heap.size + 2) 5 i0 (.int .u8 0) 1 1 Tryf.underlying24 hi hz0 hz1 hz2 rfl _ _ _ rfl HR13.out.row _ dat.length (bc dat) rfl (Src.view _ Tryf.underlying24 da dat dc HD13.out HDn.out) (by unfold maxLen; simp [b4, b8, be16]; omega) (by simp [b4, b8, be16]; omega) HR13.out.size ?_); intro v15 w15 hown15 hext15 _ _; have HR15 : Hid (Rf w w15 ts 7 v15 (b4 pa ++ b4 la ++ [0, 0] ++ be16 2 ++ (b8 hp ++ b8 lp) ++ (b8 hl ++ b8 ll) ++ dat)) := HR13.out.ext hext15 (OB.app hown15 rfl); clear hown15 hext15; obtain ⟨g, c, hv15, hV15', hl15, hc15⟩ := HR15.out.row.shape (by simp [b4, b8]); have HV15 : Hid (View w15 (some ⟨g, 0, none⟩) (bc (b4 pa ++ b4 la ++ [0, 0] ++ be16 2 ++ (b8 hp ++ b8 lp) ++ (b8 hl ++ b8 ll) ++ dat))) := hV15'; subst hv15; have HG : Hid (w.heap.size + 2 ≤ g) := (HR15.out.row.lt g rfl).1; obtain ⟨N, hN⟩ : ∃ N, N = (b4 pa ++ b4 la ++ [0, 0] ++ be16 2 ++ (b8 hp ++ b8 lp) ++ (b8 hl ++ b8 ll) ++ dat).length := ⟨_, rfl⟩; rw [← hN]; have HN : Hid (N = (b4 pa ++ b4 la ++ [0, 0] ++ be16 2 ++ (b8 hp ++ b8 lp) ++ (b8 hl ++ b8 ll) ++ dat).length) := hN; have k3 : w15.cell? ⟨w.heap.size + 1, 3, none⟩ = some (.slice none 0 0) := HR15.out.r1.cell 3; have k0 : w15.cell? ⟨w.heap.size + 1, 0, none⟩ = some (.int .u32 ts) := HR15.out.r1.cell 0; have k1 : w15.cell? ⟨w.heap.size + 1, 1, none⟩ = some (.int .u16 16) := HR15.out.r1.cell 1; have k2 : w15.cell? ⟨w.heap.size + 1, 2, none⟩ = some (.int .u16 7) := HR15.out.r1.cell 2; have j0 : w15.cell? ⟨w.heap.size, 0, none⟩ = some (.int .u32 0) := HR15.out.r0.cell 0; have j1 : w15.cell? ⟨w.heap.size, 1, none⟩ = some (.int .u16 0) := HR15.out.r0.cell 1; have j2 : w15.cell? ⟨w.heap.size, 2, none⟩ = some (.int .u16 0) := HR15.out.r0.cell 2; have j3 : w15.cell? ⟨w.heap.size, 3, none⟩ = some (.slice none 0 0) := HR15.out.r0.cell 3; have f1 := HR15.out.r1.frozen; have f0 := HR15.out.r0.frozen; clear hV15' hN)
    | fail)
  have HB16 := Hid.mk' (((((HR15.out.r0.kept ((Kept.refl w15 (fun i => i = w.heap.size + 1)).set (k := 3) (.inl rfl) (.slice (some ⟨g, 0, none⟩) N c)) (by show ¬ w.heap.size = w.heap.size + 1; omega)).set 0 (.int .u32 ts)).set 1 (.int .u16 16)).set 2 (.int .u16 7)).set 3 (.slice (some ⟨g, 0, none⟩) N c))
  have HK16 := Hid.mk' (((((HR15.out.kept.set (k := 3) (.inl (.inr rfl)) (.slice (some ⟨g, 0, none⟩) N c)).set (k := 0) (.inl (.inl rfl)) (.int .u32 ts)).set (k := 1) (.inl (.inl rfl)) (.int .u16 16)).set (k := 2) (.inl (.inl rfl)) (.int .u16 7)).set (k := 3) (.inl (.inl rfl)) (.slice (some ⟨g, 0, none⟩) N c))
  have HV16 := Hid.mk' (HV15.out.kept ((((((Kept.refl w15 (fun i => i = w.heap.size ∨ i = w.heap.size + 1)).set (k := 3) (.inl (.inr rfl)) (.slice (some ⟨g, 0, none⟩) N c)).set (k := 0) (.inl (.inl rfl)) (.int .u32 ts)).set (k := 1) (.inl (.inl rfl)) (.int .u16 16)).set (k := 2) (.inl (.inl rfl)) (.int .u16 7)).set (k := 3) (.inl (.inl rfl)) (.slice (some ⟨g, 0, none⟩) N c)) (fun b o q => by cases q; have := HG.out; intro h; rcases h with h | h <;> omega))
  refine bodyPost_ret (v := .tuple #[.agg (recOf ts 7 (.slice (some ⟨g, 0, none⟩) N c)), .nilIface]) (by simp [results, Tryf.results6, go_sem, HB16.out.cell]) rfl ?_
  refine ⟨g, c, by rw [← HN.out], HV16.out, hl15, hc15, HK16.out.below (Nat.le_refl _) (fun i q => by rcases q with q | q <;> omega)⟩

end Go.Proofs.Qxb6003778aFmt
