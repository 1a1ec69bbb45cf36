import Derived.Test.Qxb6003713aFmtAnS
namespace Go.Proofs.Qxb6003713aFmt
open Go.RowKit
set_option linter.unusedVariables false
set_option linter.unusedSimpArgs false

/-- The routes of an Update. -/
def NV (w : World) (na : Option Addr) (rs : List RI) (p4 p6 : Addr) : Prop :=
  rs = [] ∨ ∃ nb no, na = some ⟨nb, no, none⟩ ∧ ∀ i r, rs[i]? = some r → RC w nb (no + i * 42) (r.outs p4 p6) ∧ w.cell? ⟨nb, no + i * 42 + 39, none⟩ = some (.bool false)
theorem NV.later {w w' : World} {na : Option Addr} {rs : List RI} {p4 p6 : Addr} (h : NV w na rs p4 p6) (hb : Below w.heap.size w w') : NV w' na rs p4 p6 := by
  rcases h with h | ⟨nb, no, e, h⟩
  · exact .inl h
  · refine .inr ⟨nb, no, e, fun i r hi => ?_⟩
    obtain ⟨h1, h2⟩ := h i r hi
    exact ⟨h1.on hb.size (hb.block _ h1.1), cell_later hb h2⟩

theorem hkb {wl w4 w5 : World} (hk : Kept w4 w5 (fun i => i = wl.heap.size)) (hb : Below wl.heap.size wl w4) : Below wl.heap.size w4 w5 := hk.below hb.size (fun i h => by have : i = wl.heap.size := h; omega)
theorem ext_nil {w w' : World} {v' : Value} (h : Ext w w' (.slice none 0 0) v') : Below w.heap.size w w' := h.below (Below.refl _ _) (Nat.le_refl _) (fun k e => by cases e)

/-- The messages that Marshal writes. -/
def msOf (n la pa : Nat) (a4 : Bool) (o : Nat → UInt8) (cs : List (Nat → UInt8)) (pm : Option PI) (L : List (List UInt8)) : List (List UInt8) :=
  (groups ((fxOf n o).length + (avOf la pa a4 cs pm).length) L).map fun g => upd (flagOf 14) (14 : Nat) (fxOf n o) g (avOf la pa a4 cs pm)

theorem ms_ne {fl cn : Int} {fx av : List UInt8} {G : List (List UInt8)} {j : Nat} (hj : j < (G.map fun g => upd fl cn fx g av).length) : el (G.map fun g => upd fl cn fx g av) j ≠ [] := by
  have hj' : j < G.length := by simpa using hj
  simp only [el, List.getD, List.getElem?_map, List.getElem?_eq_getElem hj', Option.map_some, Option.getD_some]
  exact upd_ne _ _ _ _ _
theorem el_map {rs : List RI} {L : List (List UInt8)} (hL : L = rs.map RI.oct) {i : Nat} {r : RI} (hi : rs[i]? = some r) : el L i = r.oct := by
  subst hL
  simp [el, List.getD, hi]
theorem take_succ_el (L : List (List UInt8)) (k : Nat) (hk : k < L.length) : L.take (k + 1) = L.take k ++ [el L k] := by
  rw [List.take_succ_eq_append_getElem hk]
  simp [el, List.getD, List.getElem?_eq_getElem hk]

set_option maxRecDepth 100000 in
set_option maxHeartbeats 4000000 in
theorem updmarshal_any (ub n la pa : Nat) (a4 : Bool) (o : Nat → UInt8) (p4 p6 : Addr) (ea : Option Addr) (ec : Nat) (cs : List (Nat → UInt8)) (tp : Option Addr) (pm : Option PI) (na : Option Addr) (nc : Nat) (rs : List RI) (L : List (List UInt8)) (w : World) (hF : Fl w) (hz : Zs w p4 p6) (hA : AT w ub n o p4 p6 ea ec cs tp pm) (hB : Bd n la cs pm)
    (hL : L = rs.map RI.oct) (h9 : w.cell? ⟨ub, 9, none⟩ = some (.slice na L.length nc)) (hNV : NV w na rs p4 p6) (hok : ∀ r ∈ rs, r.ok) (hlen : L.length ≤ 4096) (hfit : ∀ i, i < L.length → ((fxOf n o).length + (avOf la pa a4 cs pm).length) + (el L i).length ≤ 4069) :
    Calls Tryf.prog 21 #[.pointer (some ⟨ub, 0, none⟩), .agg #[.int .u32 la, .int .u32 pa, .bool a4]] w fun e w' => ∃ ma cm, e = .returned (.tuple #[.slice ma (msOf n la pa a4 o cs pm L).length cm, .nilIface]) ∧ MView w' ma (msOf n la pa a4 o cs pm L) ∧ Below w.heap.size w w' := by
  obtain ⟨i0, hi, hz0, hz1, hz2⟩ := info_parts Tryf.info23
  obtain ⟨X, hX⟩ : ∃ X, X = w.alloc (.cells #[.int .u32 la, .int .u32 pa, .bool a4] 44) := ⟨_, rfl⟩
  have HXw : Hid (Below w.heap.size w X) := by rw [hX]; exact (Below.refl _ _).alloc (Nat.le_refl _) _
  have HF : Hid (∀ W, Below X.heap.size X W → Fl W) := fun W hb => (hF.later HXw.out).later hb
  have HZ : Hid (∀ W, Below X.heap.size X W → Zs W p4 p6) := fun W hb => (hz.later HXw.out).later hb
  have HAT : Hid (∀ W, Below X.heap.size X W → AT W ub n o p4 p6 ea ec cs tp pm) := fun W hb => (hA.later HXw.out).later hb
  have HNV : Hid (∀ W, Below X.heap.size X W → NV W na rs p4 p6) := fun W hb => (hNV.later HXw.out).later hb
  have H9 : Hid (∀ W, Below X.heap.size X W → W.cell? ⟨ub, 9, none⟩ = some (.slice na L.length nc)) := fun W hb => cell_later hb (cell_later HXw.out h9)
  have SB : Hid (∀ W, Below X.heap.size X W → W.cell? ⟨w.heap.size, 0, none⟩ = some (.int .u32 la) ∧ W.cell? ⟨w.heap.size, 1, none⟩ = some (.int .u32 pa) ∧ W.cell? ⟨w.heap.size, 2, none⟩ = some (.bool a4)) := fun W hb => by
    subst hX
    have h := blk_on hb (Blk.new w 44 #[.int .u32 la, .int .u32 pa, .bool a4])
    exact ⟨h.cell 0, h.cell 1, h.cell 2⟩
  have HBd := Hid.mk'' hB
  have HL : Hid (L = rs.map RI.oct) := hL
  have HLl : Hid (rs.length = L.length) := by rw [Hid, hL]; simp
  have HOK := Hid.mk'' hok
  have HLe := Hid.mk'' hlen
  have HFit := Hid.mk'' hfit
  have HNe : Hid (∀ i, i < L.length → el L i ≠ []) := fun i hi' => by
    obtain ⟨r, hr⟩ : ∃ r, rs[i]? = some r := ⟨_, List.getElem?_eq_getElem (by have := HLl.out; omega)⟩
    rw [el_map hL hr]; simp [RI.oct]
  have j1 : (L.length : Int) ≤ 4096 := by omega
  clear hF hz hA hB hL h9 hNV hok hlen hfit
  go_enter Tryf.func21, Tryf.ntmps21
  go_upto_region 1 with fail
  rw [← hX]
  clear hX
  have c9 := H9.out X (Below.refl _ _)
  go_wp2_with fail
  go_loopw [6, 7, 20] (fun wd m i wr => ∃ (k : Nat), k ≤ L.length ∧ wd = .slice none 0 0 ∧ i = .int .i64 k ∧ Hid (GM X.heap.size wr (fun g => m.ownBlock = some g) m (L.take k)) ∧ Hid (Below X.heap.size X wr)) (fun _ _ i _ => L.length - (intOf i).toNat)
  case atStart => exact ⟨0, Nat.zero_le _, rfl, rfl, GM.nil _ _ _, Below.refl _ _⟩
  case round =>
    obtain ⟨k, hk, rfl, rfl, HG, HBr⟩ := hrel
    by_cases hlt : k < L.length
    · obtain ⟨r, hr⟩ : ∃ r, rs[k]? = some r := ⟨_, List.getElem?_eq_getElem (by have := HLl.out; omega)⟩
      have HRk : Hid (r.ok) := HOK.out r (List.mem_of_getElem? hr)
      have HEl : Hid (el L k = r.oct) := el_map HL.out hr
      obtain ⟨nb, no, hna, hrow⟩ : ∃ nb no, na = some ⟨nb, no, none⟩ ∧ RC wr nb (no + k * 42) (r.outs p4 p6) ∧ wr.cell? ⟨nb, no + k * 42 + 39, none⟩ = some (.bool false) := by
        rcases HNV.out wr HBr.out with h | ⟨nb, no, e, h⟩
        · rw [h] at hr; cases hr
        · exact ⟨nb, no, e, h k r hr⟩
      subst hna
      have HRC := Hid.mk'' hrow.1
      have HWd := Hid.mk'' hrow.2
      have d9 := H9.out wr HBr.out
      have i1 : (0 : Int) ≤ (k : Int) := by omega
      have i2 : (k : Int) < (L.length : Int) := by omega
      clear hrow hr
      go_wp2_with (first
        | (at_builtin; have _tok := HPush; go_must (refine wpList_append_any _ rfl (.tmp 47) (.tmp 49) 37 37 rfl X.heap.size 23 i0 (.slice none 0 0) 1 24 Tryf.underlying37 hi hz0 hz1 hz2 rfl u7 _ xs (by rfl) (by exact World.ownsRow.alloc HXs.out _) _ 1 [.slice (some ⟨g1, 0, none⟩) n1 q1] (by rfl) (by exact Src.one w1 Tryf.underlying37 _ _ _ 23) (by rw [List.length_take]; unfold maxLen; omega) (by rw [List.length_take]; omega) (by have := HBr.out.size; have := HB1.out.size; simp; omega) ?_); intro m2 w2 hown hext _ _; have HG2 := Hid.mk'' (HPush.out _ m2 w2 hown hext); have HB2 : Hid (Below X.heap.size X w2) := (hext.of_alloc.below (HBr.out.trans (HB1.out.mono HBr.out.size)) (Nat.le_trans HBr.out.size HB1.out.size) (fun g h => (HG.out.lt g h).1)); clear hown hext)
        | (go_at_call 40; refine (nlri_any X p4 p6 r nb (no + k * 42) _ _ (HZ.out _ (Below.refl _ _)) HRk.out (by exact ⟨OB.nil _ _ _, HBr.out⟩) HRC.out (fun e => by cases e)).mono ?_; rintro e w1 ⟨v1, rfl, hO, hE⟩; have HB1 := Hid.mk'' (ext_nil hE); have e39 := cell_later HB1.out HWd.out; obtain ⟨g1, n1, q1, hv1, hn1, hge⟩ : ∃ g n q, v1 = .slice (some ⟨g, 0, none⟩) n q ∧ r.oct.length = n ∧ wr.heap.size ≤ g := (by rcases hO.form with h | ⟨g, c, h, _⟩; (exact absurd h.2 (by simp [RI.oct])); refine ⟨g, _, c, h, rfl, ?_⟩; subst h; rcases hE.lies with q | ⟨g', q, hg'⟩; (cases q); (cases q; exact hg')); subst hv1; have HV1 := Hid.mk'' (view_row hO); have hlt1 := (hO.lt g1 rfl).2; have HG1 : Hid (GM X.heap.size w1 (fun g => u7.ownBlock = some g) u7 (L.take k)) := (HG.out.step (Kept.ofAll HB1.out (fun _ => False)) (fun _ _ h => h) (fun _ _ _ h => h.elim) (fun _ _ _ h => h)); obtain ⟨xs, hxs, hpush⟩ := HG1.out.push (fun _ h => h); have HXs := Hid.mk'' hxs; have HPush : Hid (∀ (ob : Obj) (m2 : Value) (w2 : World), w2.ownsRow X.heap.size 23 1 m2 ((L.take k).length + 1) (xs ++ [.slice (some ⟨g1, 0, none⟩) n1 q1]) → Ext (w1.alloc ob) w2 u7 m2 → GM X.heap.size w2 (fun g => m2.ownBlock = some g) m2 (L.take (k + 1))) := (fun ob m2 w2 h1 h2 => by rw [take_succ_el L k hlt, HEl.out]; exact hpush ob m2 w2 (fun g => m2.ownBlock = some g) r.oct g1 n1 q1 h1 h2 HV1.out hn1 (Nat.le_trans HBr.out.size hge) hlt1 (fun h => by have := (HG.out.lt _ h).2; omega) (fun g _ hg h => h2.of_alloc.own hg h)); clear hO hE hxs hpush hge)
        | fail)
      go_roundw
      case rel => exact ⟨k + 1, by omega, rfl, by go_num, HG2, HB2⟩
      case measure => simp [intOf]; omega
    · obtain rfl : k = L.length := by omega
      have HGL : Hid (GM X.heap.size wr (fun g => u7.ownBlock = some g) u7 L) := by have h := HG.out; rw [List.take_length] at h; exact h
      obtain ⟨ma, cm, hu7, hLV, -⟩ := HGL.out.lview
      subst hu7
      have HLV := Hid.mk'' hLV
      clear hLV HG
      have HEnv : Hid (∀ {W wl : World} {fa : Option Addr} {cf : Nat} {aa : Option Addr} {ca : Nat}, Packed n la pa a4 o cs pm W wl fa cf aa ca → LView wl ma L → Fl wl → Env wl (flagOf 14) (bits .or .u8 (flagOf 14) 16) 14 fa cf (fxOf n o) aa ca (avOf la pa a4 cs pm) ma L) := fun {W wl fa cf aa ca} hp hl hf => by
        obtain ⟨fy, h1, h2, h3, h4, h5⟩ := flags_ok 14
        obtain ⟨p1, p2, p3, ⟨g, p4'⟩, p5, p6', p7, p8⟩ := hp
        exact ⟨by decide, h4, h5, rfl, by rw [h1]; exact h2, by rw [h1]; exact h3, p2, p3, (fun q => by rw [p4'] at q; cases q), p1, p5, p6', p7, hf.2 14 (by decide), hf.1, hl, HNe.out, HFit.out⟩
      by_cases h0 : L.length = 0
      · obtain rfl : L = [] := List.eq_nil_of_length_eq_zero h0
        have HMs : Hid ((msOf n la pa a4 o cs pm []) = []) := rfl
        go_wp2_with (first
          | (go_at_call 44; refine (update_nil _ 0 _ _ _ _ (by exact Blk.new _ _ _)).mono ?_; rintro e w2 ⟨rfl, rfl⟩; have HB2 : Hid (Below X.heap.size X (w1.alloc (.cells #[.int .u8 15, .slice (some ⟨gf, 0, none⟩) 3 qf, .slice none 0 0, .slice none 0 0] 132))) := HB1.out.alloc HB1.out.size _; have HLV2 := Hid.mk'' (HLV1.out.all ((Below.refl _ _).alloc (Nat.le_refl _) (.cells #[.int .u8 15, .slice (some ⟨gf, 0, none⟩) 3 qf, .slice none 0 0, .slice none 0 0] 132))))
          | (go_at_call 43; refine (fam_any _).mono ?_; rintro e w1 ⟨v1, rfl, hO, hb⟩; have HB1 := Hid.mk'' (HBr.out.trans (hb.mono HBr.out.size)); have HLV1 := Hid.mk'' (HLV.out.all hb); obtain ⟨gf, qf, hv1⟩ : ∃ g q, v1 = .slice (some ⟨g, 0, none⟩) 3 q := (by rcases hO.form with h | ⟨g, c, h, _⟩; (exact absurd h.2 (by simp)); exact ⟨g, c, h⟩); subst hv1; have hub : ub < w1.heap.size := (World.block_lt_of_cell? w1 _ (HAT.out _ HB1.out).c0); have hub' : ¬ ub = w1.heap.size := Nat.ne_of_lt hub; have c0 := (HAT.out _ HB1.out).c0; have c1 := (HAT.out _ HB1.out).c1; have c2 := (HAT.out _ HB1.out).c2; clear hO hb)
          | fail)
        refine bodyPost_ret (v := .tuple #[.slice none 0 0, .nilIface]) (by simp [results, Tryf.results21, go_sem]) rfl ?_
        refine ⟨none, 0, by rw [HMs.out]; rfl, fun j hj => by rw [HMs.out] at hj; simp at hj, HXw.out.trans (HB2.out.mono HXw.out.size)⟩
      · have j2 : ¬ (L.length : Int) = 0 := by omega
        have j3 : (0 : Int) < (L.length : Int) := by omega
        go_wp2_with (first
          | (go_at_call 37; refine (valid_c p4 p6 n o _ (by exact HZ.out _ HB2.out) HBd.out.n).mono ?_; rintro e w3 ⟨rfl, hb⟩; have HB3 := Hid.mk'' (HB2.out.trans (hb.mono HB2.out.size)); have HLV3 := Hid.mk'' (HLV2.out.all hb); clear hb)
          | (go_at_call 44; refine (update_nil _ 0 _ _ _ _ (by exact Blk.new _ _ _)).mono ?_; rintro e w2 ⟨rfl, rfl⟩; have HB2 : Hid (Below X.heap.size X (w1.alloc (.cells #[.int .u8 15, .slice (some ⟨gf, 0, none⟩) 3 qf, .slice none 0 0, .slice none 0 0] 132))) := HB1.out.alloc HB1.out.size _; have HLV2 := Hid.mk'' (HLV1.out.all ((Below.refl _ _).alloc (Nat.le_refl _) (.cells #[.int .u8 15, .slice (some ⟨gf, 0, none⟩) 3 qf, .slice none 0 0, .slice none 0 0] 132))))
          | (go_at_call 43; refine (fam_any _).mono ?_; rintro e w1 ⟨v1, rfl, hO, hb⟩; have HB1 := Hid.mk'' (HBr.out.trans (hb.mono HBr.out.size)); have HLV1 := Hid.mk'' (HLV.out.all hb); obtain ⟨gf, qf, hv1⟩ : ∃ g q, v1 = .slice (some ⟨g, 0, none⟩) 3 q := (by rcases hO.form with h | ⟨g, c, h, _⟩; (exact absurd h.2 (by simp)); exact ⟨g, c, h⟩); subst hv1; have hub : ub < w1.heap.size := (World.block_lt_of_cell? w1 _ (HAT.out _ HB1.out).c0); have hub' : ¬ ub = w1.heap.size := Nat.ne_of_lt hub; have c0 := (HAT.out _ HB1.out).c0; have c1 := (HAT.out _ HB1.out).c1; have c2 := (HAT.out _ HB1.out).c2; clear hO hb)
          | fail)
        obtain ⟨b0, b1, b2⟩ := SB.out _ HB3.out
        go_region_held3 (fun w' => w'.cell? ⟨w.heap.size, 0, none⟩ = some (.int .u32 la) ∧ w'.cell? ⟨w.heap.size, 1, none⟩ = some (.int .u32 pa) ∧ w'.cell? ⟨w.heap.size, 2, none⟩ = some (.bool a4)) ((first | go_keep | exact SB.out _ HB6.out | exact SB.out _ HB4'.out)) ((first
          | (go_at_call 44; have _tok := HPk; refine (update_any (HEnv.out HPk.out HLV4.out (HF.out _ HBl.out)) wl.heap.size cm _ HB4.out (Nat.le_refl _) HLe.out HP4.out).mono ?_; rintro e w5 ⟨mv, v5, rfl, hk5, hM5⟩; have HK5 := Hid.mk'' hk5; have HM5 := Hid.mk'' hM5; clear hk5 hM5; have HB6 : Hid (Below X.heap.size X w5) := HBl.out.trans ((HB4.out.trans (hkb HK5.out HB4.out)).mono HBl.out.size))
          | (go_at_call 39; refine (reach_any ub n la pa a4 o p4 p6 ea ec cs tp pm _ (HF.out _ (below_drew HB3.out)) (HZ.out _ (below_drew HB3.out)) (HAT.out _ (below_drew HB3.out)) HBd.out).mono ?_; rintro e w4 ⟨wl, fa, cf, aa, ca, rfl, hw4, hpk⟩; have HPk := Hid.mk'' hpk; have HBl := Hid.mk'' ((below_drew HB3.out).trans (hpk.2.2.2.2.2.2.2.mono (below_drew HB3.out).size)); have HB4 : Hid (Below wl.heap.size wl w4) := (by rw [hw4]; exact (Below.refl _ _).alloc (Nat.le_refl _) _); have HP4 : Hid (PKb w4 wl.heap.size 132 (.int .u8 (14 : Nat)) (.slice fa (fxOf n o).length cf) (.slice aa (avOf la pa a4 cs pm).length ca) (.slice none 0 0)) := (by rw [hw4]; exact Blk.new _ _ _); have HB4' := Hid.mk'' (HBl.out.trans (HB4.out.mono HBl.out.size)); have HLV4 := Hid.mk'' (LView.all (w := World.drew w3) HLV3.out hpk.2.2.2.2.2.2.2); clear hpk hw4)
          | fail))
        go_wp2_with fail
        obtain ⟨ma', cm', hmv, hMV⟩ := HM5.out.view (fun j hj => ms_ne hj)
        subst hmv
        refine bodyPost_ret (v := .tuple #[.slice ma' (msOf n la pa a4 o cs pm L).length cm', .nilIface]) (by simp [results, Tryf.results21, go_sem, msOf]) rfl ?_
        exact ⟨ma', cm', rfl, hMV, HXw.out.trans (HB6.out.mono HXw.out.size)⟩

end Go.Proofs.Qxb6003713aFmt
