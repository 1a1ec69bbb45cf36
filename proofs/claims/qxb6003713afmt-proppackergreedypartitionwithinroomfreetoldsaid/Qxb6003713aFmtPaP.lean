import Derived.Test.Qxb6003713aFmtPaO
namespace Go.Proofs.Qxb6003713aFmt
open Go.RowKit
set_option linter.unusedVariables false
set_option linter.unusedSimpArgs false

/-- The first packer's state behind k rounds. -/
structure St1 (w4 : World) (pb : Nat) (fx av : List UInt8) (L : List (List UInt8)) (c f a : Value) (wr : World) (v : Value) (k : Nat) : Prop where
  kept : Kept w4 wr (fun i => i = pb)
  hP : PKb wr pb 132 c f a v
  hO : OB 5 w4.heap.size wr v (cur (fx.length + av.length) L k)

theorem St1.step {w4 : World} {pb : Nat} {fx av : List UInt8} {L : List (List UInt8)} {c f a : Value} {wr : World} {v : Value} {k : Nat} (h : St1 w4 pb fx av L c f a wr v k) {w' : World} {v' : Value} (hP : PKb w' pb 132 c f a v') (hO : OB 5 w4.heap.size w' v' (cur (fx.length + av.length) L (k + 1)))
    (hk : Kept wr w' (fun i => i = pb ∨ v.ownBlock = some i)) : St1 w4 pb fx av L c f a w' v' (k + 1) := by
  refine ⟨h.kept.next hk (fun i hi q => ?_), hP, hO⟩
  rcases q with q | q
  · exact q
  · have := (h.hO.lt _ q).1
    omega

theorem ex_two {L : List (List UInt8)} (hl : L.length = 2) (h0 : (el L 0).length = 35) (h1 : (el L 1).length = 35) : (groups 4000 L).length = 2 := by
  have z := cur_zero 4000 L
  have a0 := cur_stay (F := 4000) (L := L) (i := 0) (by omega) (by rw [z]; simp; omega)
  have c1 : (cur 4000 L 1).length = 35 := by rw [a0.2.2, z]; simpa using h0
  have a1 := cur_flush (F := 4000) (L := L) (i := 1) (by omega) (by omega)
  have c2 : cur 4000 L 2 ≠ [] := by
    rw [a1.2.2]
    intro h
    rw [h] at h1
    simp at h1
  have g1 : gr 4000 L 1 = [] := a0.2.1
  unfold groups
  rw [hl, if_neg c2, List.length_append, a1.2.1, g1]
  rfl

theorem hdr79 (w : World) : Calls Tryf.prog 34 #[.int .i64 79] w fun e w' => e = .returned (.int .i64 3) ∧ w' = w := by
  refine (hdr_any 79 w).mono ?_
  rintro e w' ⟨rfl, rfl⟩
  exact ⟨rfl, rfl⟩

theorem groups_ne (fl cn : Int) (fx av : List UInt8) (F : Nat) (L : List (List UInt8)) : ∀ j, j < ((groups F L).map fun g => upd fl cn fx g av).length → el ((groups F L).map fun g => upd fl cn fx g av) j ≠ [] := by
  intro j hj
  simp only [List.length_map] at hj
  simp only [el, List.getD, List.getElem?_map, List.getElem?_eq_getElem hj, Option.map_some, Option.getD_some]
  exact upd_ne _ _ _ _ _

set_option maxRecDepth 100000 in
set_option maxHeartbeats 10000000 in
theorem greedy_any {w : World} {fl fy : Int} {cn : Nat} {fa : Option Addr} {fx : List UInt8} {aa : Option Addr} {av : List UInt8} {na : Option Addr} {L : List (List UInt8)} (A : Asked w fl fy cn fa fx aa av na L) (cf ca nc : Nat) :
    Calls Tryf.prog 12 #[.int .u8 cn, .slice fa fx.length cf, .slice aa av.length ca, .slice na L.length nc] w fun e w' => e = .returned (.bool true) ∧ Below w.heap.size w w' := by
  have HA : Hid (Asked w fl fy cn fa fx aa av na L) := A
  have l1 : ¬ (65536 : Int) < (fx.length : Int) := by have := A.lf; omega
  have l2 : ¬ (65536 : Int) < (av.length : Int) := by have := A.la; omega
  have l3 : ¬ (4096 : Int) < (L.length : Int) := by have := A.ll; omega
  obtain ⟨R1, hR1⟩ : ∃ R1 : Int, R1 = 4069 - (fx.length : Int) := ⟨_, rfl⟩
  obtain ⟨R, hR⟩ : ∃ R : Int, R = R1 - (av.length : Int) := ⟨_, rfl⟩
  have r1 : IntKind.i64.wrap (4069 - (fx.length : Int)) = R1 := by rw [IntKind.wrap_i64]; omega
  have r2 : IntKind.i64.wrap (R1 - (av.length : Int)) = R := by rw [IntKind.wrap_i64]; omega
  have HR : Hid (R = 4069 - (fx.length : Int) - (av.length : Int)) := by show R = _; omega
  clear A hR1 hR
  go_enter Tryf.func12, Tryf.ntmps12
  go_wp2
  go_loop [9] (fun i => ∃ k : Nat, k ≤ L.length ∧ i = .int .i64 k) (fun i => L.length - (intOf i).toNat)
  case atStart => exact ⟨0, Nat.zero_le _, rfl⟩
  case round =>
    obtain ⟨k, hk, rfl⟩ := hrel
    by_cases hlt : k < L.length
    · obtain ⟨b, off, ba, cb, hla, hcl, -, -⟩ := HA.out.hL.at hlt
      subst hla
      have hne := HA.out.ne k hlt
      have hft := HA.out.fit k hlt
      obtain ⟨n, hn⟩ : ∃ n, n = (el L k).length := ⟨_, rfl⟩
      have hn0 : 0 < n := by rw [hn]; exact List.length_pos_iff.2 hne
      have hn1 : n ≤ 4069 := by omega
      rw [← hn] at hcl
      have i1 : (0 : Int) ≤ (k : Int) := by omega
      have i2 : (k : Int) < (L.length : Int) := by omega
      have i3 : ¬ n = 0 := by omega
      have i4 : ¬ (8192 : Int) < (n : Int) := by omega
      clear hne hft hn
      go_wp2
      go_round
      case rel => exact ⟨k + 1, by omega, by go_num⟩
      case measure => simp [intOf]; omega
    · obtain rfl : k = L.length := by omega
      go_wp2_with (first
        | (go_at_call 16; have _tok := hb1; go_must (refine (clone_bytes aa ca av _ (HA.out.hVa.all hb1.out) HA.out.hna (by have := HA.out.la; omega)).mono ?_); intro e w2 hC; obtain ⟨a2, rfl, v2, n2, p2, hb2'⟩ := hC; have V2 : Hid (View w2 a2 (bc av)) := v2; have N2 : Hid (a2 = none → av.length = 0) := n2; have P2 : Hid (∀ k o, a2 = some ⟨k, o, none⟩ → k < w2.heap.size) := (fun k o h => (p2 k o h).2); have hb2 : Hid (Below w1.heap.size w1 w2) := hb2'; clear v2 n2 p2 hb2')
        | (go_at_call 16; go_must (refine (clone_bytes fa cf fx _ HA.out.hVf HA.out.hnf (by have := HA.out.lf; omega)).mono ?_); intro e w1 hC; obtain ⟨a1, rfl, v1, n1, p1, hb1'⟩ := hC; have V1 : Hid (View w1 a1 (bc fx)) := v1; have N1 : Hid (a1 = none → fx.length = 0) := n1; have hb1 : Hid (Below w.heap.size w w1) := hb1'; clear v1 n1 p1 hb1')
        | (go_at_call 29; go_must (refine (cloneL_any na nc L _ ((HA.out.hL.all hb1.out).all hb2.out) HA.out.hnl HA.out.ll (fun i hi => by have := HA.out.fit i hi; omega)).mono ?_); intro e w3 hC; obtain ⟨a3, rfl, v3, hb3'⟩ := hC; have E3 : Hid (Env w3 fl fy cn a1 fx.length fx a2 av.length av a3 L) := env_of HA.out hb1.out hb2.out hb3' V1.out N1.out V2.out N2.out P2.out v3; have hb03 : Hid (Below w.heap.size w w3) := Below.trans (Below.trans hb1.out (hb2.out.mono hb1.out.size)) (hb3'.mono (Nat.le_trans hb1.out.size hb2.out.size)); clear v3 hb3')
        | (go_at_call 30; go_must (refine (newPacker_any cn a1 fx.length fx.length a2 av.length av.length _).mono ?_); intro e w4 hC; obtain ⟨rfl, hP4, hb4⟩ := hC; have HP4 : Hid (PKb w4 w3.heap.size 132 (.int .u8 cn) (.slice a1 fx.length fx.length) (.slice a2 av.length av.length) (.slice none 0 0)) := hP4; have hb34 : Hid (Below w3.heap.size w3 w4) := hb4; clear hP4 hb4)
        | fail)
      have hpl := HP4.out.lt
      have HS0 : Hid (St1 w4 w3.heap.size fx av L (.int .u8 cn) (.slice a1 fx.length fx.length) (.slice a2 av.length av.length) w4 (.slice none 0 0) 0) := ⟨Kept.refl _ _, HP4.out, by rw [cur_zero]; exact OB.nil _ _ _⟩
      go_loopw [14, 16] (fun s i wr => ∃ (k : Nat) (v : Value), k ≤ L.length ∧ s = .bool false ∧ i = .int .i64 k ∧ Hid (St1 w4 w3.heap.size fx av L (.int .u8 cn) (.slice a1 fx.length fx.length) (.slice a2 av.length av.length) wr v k)) (fun _ i _ => L.length - (intOf i).toNat)
      case atStart => exact ⟨0, _, Nat.zero_le _, rfl, rfl, HS0⟩
      case round =>
        obtain ⟨k, v, hk, rfl, rfl, HS⟩ := hrel
        have HB3 : Hid (Below w3.heap.size w3 wr) := hb34.out.trans (HS.out.kept.below (Nat.le_of_lt hpl) (fun i h => by have : i = w3.heap.size := h; omega))
        have hsz := HS.out.kept.size
        have HVp : Hid (v.ownBlock ≠ some w3.heap.size) := fun q => by have := (HS.out.hO.lt _ q).1; omega
        by_cases hlt : k < L.length
        · obtain ⟨b, off, ba, cb, hla, hcl, hVb, hnb⟩ := E3.out.hL.at hlt
          subst hla
          have hcell := cell_later HB3.out hcl
          have HVb : Hid (View w3 ba (bc (el L k))) := hVb
          have HNb : Hid (ba = none → el L k = []) := hnb
          have hft := E3.out.fit k hlt
          have hRR := HR.out
          have iR : ¬ R < ((el L k).length : Int) := by omega
          have i1 : (0 : Int) ≤ (k : Int) := by omega
          have i2 : (k : Int) < (L.length : Int) := by omega
          clear hcl hVb hnb hft hRR
          go_wp2_with (first
            | (go_at_call 31; go_must (refine (addW_env E3.out w3.heap.size w4.heap.size k v ba cb wr HB3.out (Nat.le_refl _) hsz hlt HS.out.hP HS.out.hO HVp.out HVb.out HNb.out).mono ?_); intro e w5 hA; obtain ⟨m5, v5, rfl, hP5, hO5, -, hk5, -⟩ := hA; have HS5 : Hid (St1 w4 w3.heap.size fx av L (.int .u8 cn) (.slice a1 fx.length fx.length) (.slice a2 av.length av.length) w5 v5 (k + 1)) := HS.out.step hP5 hO5 hk5; clear hP5 hO5 hk5)
            | fail)
          go_roundw
          case rel => exact ⟨k + 1, v5, by omega, rfl, by go_num, HS5⟩
          case measure => simp [intOf]; omega
        · obtain rfl : k = L.length := by omega
          have HB0 : Hid (Below w.heap.size w wr) := hb03.out.trans (HB3.out.mono hb03.out.size)
          clear HVp HS HS0 HP4
          go_wp2_with (first
            | (go_at_call 30; go_must (refine (newPacker_any cn a1 fx.length fx.length a2 av.length av.length _).mono ?_); intro e w6 hC; obtain ⟨rfl, hP6, hb6'⟩ := hC; have HP6 : Hid (PKb w6 wr.heap.size 132 (.int .u8 cn) (.slice a1 fx.length fx.length) (.slice a2 av.length av.length) (.slice none 0 0)) := hP6; have hb6 : Hid (Below wr.heap.size wr w6) := hb6'; clear hP6 hb6')
            | (go_at_call 32; go_must (refine (updateW_any E3.out wr.heap.size L.length w6 (HB3.out.trans (hb6.out.mono HB3.out.size)) HB3.out.size HA.out.ll HP6.out).mono ?_); intro e w7 hC; obtain ⟨mv, v7, rfl, hk7, hM7⟩ := hC; obtain ⟨ma, cm, hmv, hMV⟩ := hM7.view (groups_ne _ _ _ _ _ _); obtain ⟨NM, hNM⟩ : ∃ NM, NM = (groups (fx.length + av.length) L).length := ⟨_, rfl⟩; rw [List.length_map, ← hNM] at hmv; subst hmv; have HNM : Hid (NM = (groups (fx.length + av.length) L).length) := hNM; have HMV : Hid (MView w7 ma ((groups (fx.length + av.length) L).map fun g => upd fl cn fx g av)) := hMV; have HK7 : Hid (Kept w6 w7 (fun i => i = wr.heap.size)) := hk7; clear hk7 hM7 hMV hNM)
            | fail)
          have HB7 : Hid (Below w3.heap.size w3 w7) := (HB3.out.trans (hb6.out.mono HB3.out.size)).trans (HK7.out.below (Nat.le_trans HB3.out.size hb6.out.size) (fun i h => by have : i = wr.heap.size := h; have := HB3.out.size; omega))
          have HB07 : Hid (Below w.heap.size w w7) := hb03.out.trans (HB7.out.mono hb03.out.size)
          have HLV : Hid (LView w7 a3 L) := E3.out.hL.all HB7.out
          have HVF : Hid (View w7 a1 (bc fx)) := E3.out.hVf.all HB7.out
          have HVA : Hid (View w7 a2 (bc av)) := E3.out.hVa.all HB7.out
          obtain ⟨F, hF⟩ : ∃ F, F = fx.length + av.length := ⟨_, rfl⟩
          have HF : Hid (F = fx.length + av.length) := hF
          rw [← hF] at HMV HNM
          have hFit : ∀ i, i < L.length → F + (el L i).length ≤ 4069 := by rw [hF]; exact E3.out.fit
          have HFit : Hid (∀ i, i < L.length → F + (el L i).length ≤ 4069) := hFit
          have HRF : Hid (R = 4069 - (F : Int)) := by have := HR.out; show R = _; omega
          clear hF hFit HB3 hb6 HP6 HK7 HB0 hb34 HR
          go_loopw [23, 24, 25, 26] (fun k lo' c i wr' => ∃ (j G p C nq : Nat), j ≤ L.length ∧ i = .int .i64 j ∧ k = .int .i64 G ∧ lo' = .int .i64 p ∧ c = .int .i64 C ∧ wr' = w7.drewN nq ∧ Hid (G = (gr F L j).length ∧ p = lo F L j ∧ C = (cur F L j).length)) (fun _ _ _ i _ => L.length - (intOf i).toNat)
          case atStart => exact ⟨0, 0, 0, 0, 0, Nat.zero_le _, rfl, rfl, rfl, rfl, rfl, rfl, rfl, by rw [cur_zero]; rfl⟩
          case round =>
            obtain ⟨j, G, p, C, nq, hj, rfl, rfl, rfl, rfl, rfl, HI⟩ := hrel
            have hI := HI.out
            have hFF := HF.out
            have hRR := HRF.out
            have hgle := gr_le F L j
            by_cases hlt : j < L.length
            · obtain ⟨b, off, ba, cb, hla, hcl, hVb, hnb⟩ := HLV.out.at hlt
              subst hla
              have hfit := HFit.out j hlt
              have hne := E3.out.ne j hlt
              have hcf := cur_fits (F := F) (L := L) (.inl (by omega)) HFit.out j (by omega) (by omega)
              obtain ⟨n, hn⟩ : ∃ n, n = (el L j).length := ⟨_, rfl⟩
              have hn0 : 0 < n := by rw [hn]; exact List.length_pos_iff.2 hne
              rw [← hn] at hcl
              have i1 : (0 : Int) ≤ (j : Int) := by omega
              have i2 : (j : Int) < (L.length : Int) := by omega
              obtain ⟨CN, hCN⟩ : ∃ CN, CN = C + n := ⟨_, rfl⟩
              have w1' : IntKind.i64.wrap ((C : Int) + (n : Int)) = (CN : Int) := by rw [IntKind.wrap_i64]; omega
              by_cases hf : 4069 < F + (cur F L j).length + (el L j).length
              · have hfl := cur_flush hlt hf
                have HI' : Hid (G + 1 = (gr F L (j + 1)).length ∧ j = lo F L (j + 1) ∧ n = (cur F L (j + 1)).length) := by rw [Hid, hfl.1, hfl.2.1, hfl.2.2, List.length_append]; exact ⟨by simp; omega, rfl, hn⟩
                have hga := groups_at hlt hf
                rw [← hI.1] at hga
                have hGN : G < (groups F L).length := (List.getElem?_eq_some_iff.1 hga).1
                obtain ⟨bm, om, g, cg, hma, hcm, hVm⟩ := HMV.out G (by rw [List.length_map]; exact hGN)
                subst hma
                have hel : el ((groups F L).map fun g => upd fl cn fx g av) G = upd fl cn fx (cat L p j) av := by
                  simp only [el, List.getD, List.getElem?_map, hga, Option.map_some, Option.getD_some]
                  rw [hI.2.1]
                  rfl
                rw [hel] at hcm hVm
                have hul := upd_length fl cn fx (cat L p j) av
                have hCc : (cat L p j).length = C := by rw [hI.2.2, hI.2.1]; rfl
                obtain ⟨T, hT⟩ : ∃ T, T = (upd fl cn fx (cat L p j) av).length := ⟨_, rfl⟩
                rw [← hT] at hcm hul
                rw [hCc] at hul
                have hple : p ≤ j := by rw [hI.2.1]; exact lo_le F L j
                have HMsg : Hid (∀ q, Calls Tryf.prog 33 #[.slice (some ⟨g, 0, none⟩) T cg, .int .u8 cn, .slice a1 fx.length fx.length, .slice a2 av.length av.length, .slice (some ⟨b, off, none⟩) L.length L.length, .int .i64 p, .int .i64 j] (w7.drewN q) fun e w' => e = .returned (.bool true) ∧ ∃ nq, w' = (w7.drewN q).drewN nq) :=
                  fun q => msgOK_any g T cg cn fl fy a1 fx.length fx a2 av.length av (some ⟨b, off, none⟩) L.length L p j (w7.drewN q) HA.out.hc HA.out.hf0 HA.out.hf HA.out.hfl HA.out.hx HA.out.hx0 HA.out.hx1 hT.symm hVm HVF.out HVA.out HLV.out hple (by omega) HA.out.ll (by rw [hCc]; omega)
                have hd1 : 3 ≤ hdr (fx.length + C) := by unfold hdr; split <;> omega
                have hd2 : hdr (fx.length + C) ≤ 4 := by unfold hdr; split <;> omega
                have c0 : (0 : Int) < (C : Int) := by omega
                have jR : R < (CN : Int) := by omega
                have jG : (G : Int) < (NM : Int) := by have := HNM.out; omega
                have jG0 : (0 : Int) ≤ (G : Int) := by omega
                obtain ⟨TN, hTN⟩ : ∃ TN, TN = T + n := ⟨_, rfl⟩
                have w3' : IntKind.i64.wrap ((T : Int) + (n : Int)) = (TN : Int) := by rw [IntKind.wrap_i64]; omega
                have jT : ¬ (TN : Int) ≤ 4095 := by omega
                obtain ⟨FC, hFC⟩ : ∃ FC, FC = fx.length + C := ⟨_, rfl⟩
                have w4' : IntKind.i64.wrap ((fx.length : Int) + (C : Int)) = (FC : Int) := by rw [IntKind.wrap_i64]; omega
                have w5' : IntKind.i64.wrap ((G : Int) + 1) = ((G + 1 : Nat) : Int) := by rw [IntKind.wrap_i64]; omega
                have w2' : wrap64 (n : Int) = (n : Int) := by unfold wrap64; omega
                by_cases hbig : 255 < FC
                · have hd4 : hdr (fx.length + C) = 4 := by unfold hdr; rw [if_pos (by omega)]
                  have jB : (255 : Int) < (FC : Int) := by omega
                  have jT2 : ¬ (TN : Int) ≤ 4096 := by omega
                  clear hfl hI hFF hRR hfit hne hcf hn hCN hf hgle hVb hnb hga hGN hVm hel hul hCc hT hple hd1 hd2 hTN hFC hd4 hbig
                  go_wp2_with (first
                    | (go_at_call 33; go_must (refine (HMsg.out _).mono ?_); rintro e w8 ⟨rfl, nq8, rfl⟩)
                    | fail)
                  go_quiet (fail)
                  go_wp2
                  go_roundw
                  case rel => exact ⟨j + 1, G + 1, j, n, _, by omega, by go_num, by go_num, rfl, by first | rfl | exact congrArg (Value.int .i64) w2', rfl, HI'⟩
                  case measure => simp [intOf]; omega
                · have jB : ¬ (255 : Int) < (FC : Int) := by omega
                  clear hfl hI hFF hRR hfit hne hcf hn hCN hf hgle hVb hnb hga hGN hVm hel hul hCc hT hple hd1 hd2 hTN hFC hbig
                  go_wp2_with (first
                    | (go_at_call 33; go_must (refine (HMsg.out _).mono ?_); rintro e w8 ⟨rfl, nq8, rfl⟩)
                    | fail)
                  go_quiet (fail)
                  go_wp2
                  go_roundw
                  case rel => exact ⟨j + 1, G + 1, j, n, _, by omega, by go_num, by go_num, rfl, by first | rfl | exact congrArg (Value.int .i64) w2', rfl, HI'⟩
                  case measure => simp [intOf]; omega
              · have hst := cur_stay hlt hf
                have HI' : Hid (G = (gr F L (j + 1)).length ∧ p = lo F L (j + 1) ∧ CN = (cur F L (j + 1)).length) := by rw [Hid, hst.1, hst.2.1, hst.2.2, List.length_append]; exact ⟨hI.1, hI.2.1, by omega⟩
                have jR : ¬ R < (CN : Int) := by omega
                by_cases hC0 : C = 0
                · subst hC0
                  obtain rfl : CN = n := by omega
                  have w2' : wrap64 (CN : Int) = (CN : Int) := by unfold wrap64; omega
                  clear hst hI hFF hRR hfit hne hcf hn hCN hf hgle hVb hnb w1'
                  go_wp2
                  go_roundw
                  case rel => exact ⟨j + 1, G, p, CN, nq, by omega, by go_num, rfl, rfl, congrArg (Value.int .i64) w2', rfl, HI'⟩
                  case measure => simp [intOf]; omega
                · have c0 : (0 : Int) < (C : Int) := by omega
                  clear hst hI hFF hRR hfit hne hcf hn hCN hf hgle hVb hnb
                  go_wp2
                  go_roundw
                  case rel => exact ⟨j + 1, G, p, CN, nq, by omega, by go_num, rfl, rfl, rfl, rfl, HI'⟩
                  case measure => simp [intOf]; omega
            · obtain rfl : j = L.length := by omega
              by_cases hL0 : L.length = 0
              · have hc0 : cur F L L.length = [] := by rw [hL0]; exact cur_zero _ _
                have hg0 : (gr F L L.length).length = 0 := by rw [hL0]; rfl
                obtain rfl : C = 0 := by rw [hI.2.2, hc0]; rfl
                obtain rfl : G = 0 := by rw [hI.1, hg0]
                obtain rfl : NM = 0 := by rw [HNM.out, groups, if_pos hc0, hg0]
                have q3 : ¬ (L.length : Int) = 2 := by omega
                clear hc0 hg0 hL0 hI hgle HI hj hlt
                by_cases e1 : fx.length = 9
                · have q1 : (fx.length : Int) = 9 := by omega
                  by_cases e2 : av.length = 3991
                  · have q2 : (av.length : Int) = 3991 := by omega
                    clear e1 e2 hFF hRR
                    go_wp2_with (first
                      | fail)
                    go_ret
                    exact ⟨rfl, HB07.out.os, HB07.out.tape, HB07.out.output, HB07.out.size, HB07.out.block⟩
                  · have q2 : ¬ (av.length : Int) = 3991 := by omega
                    clear e1 e2 hFF hRR
                    go_wp2_with (first
                      | fail)
                    go_ret
                    exact ⟨rfl, HB07.out.os, HB07.out.tape, HB07.out.output, HB07.out.size, HB07.out.block⟩
                · have q1 : ¬ (fx.length : Int) = 9 := by omega
                  clear e1 hFF hRR
                  go_wp2_with (first
                    | fail)
                  go_ret
                  exact ⟨rfl, HB07.out.os, HB07.out.tape, HB07.out.output, HB07.out.size, HB07.out.block⟩
              · have hLp : 0 < L.length := by omega
                have hne := cur_ne (F := F) E3.out.ne L.length hLp (Nat.le_refl _)
                have hCp : 0 < C := by rw [hI.2.2]; exact List.length_pos_iff.2 hne
                have hgl := groups_last hne
                have hga := hgl.1
                rw [← hI.1] at hga
                have hGN : G < (groups F L).length := (List.getElem?_eq_some_iff.1 hga).1
                have hNG : NM = G + 1 := by rw [HNM.out, hgl.2, hI.1]
                obtain ⟨bm, om, g, cg, hma, hcm, hVm⟩ := HMV.out G (by rw [List.length_map]; exact hGN)
                subst hma
                have hel : el ((groups F L).map fun g => upd fl cn fx g av) G = upd fl cn fx (cat L p L.length) av := by
                  simp only [el, List.getD, List.getElem?_map, hga, Option.map_some, Option.getD_some]
                  rw [hI.2.1]
                  rfl
                rw [hel] at hcm hVm
                have hcf := cur_fits (F := F) (L := L) (.inl (by have := HFit.out 0 hLp; omega)) HFit.out L.length (Nat.le_refl _) hLp
                have hCc : (cat L p L.length).length = C := by rw [hI.2.2, hI.2.1]; rfl
                obtain ⟨T, hT⟩ : ∃ T, T = (upd fl cn fx (cat L p L.length) av).length := ⟨_, rfl⟩
                rw [← hT] at hcm
                have hple : p ≤ L.length := by rw [hI.2.1]; exact lo_le F L L.length
                have HMsg : Hid (∀ q, Calls Tryf.prog 33 #[.slice (some ⟨g, 0, none⟩) T cg, .int .u8 cn, .slice a1 fx.length fx.length, .slice a2 av.length av.length, .slice a3 L.length L.length, .int .i64 p, .int .i64 L.length] (w7.drewN q) fun e w' => e = .returned (.bool true) ∧ ∃ nq, w' = (w7.drewN q).drewN nq) :=
                  fun q => msgOK_any g T cg cn fl fy a1 fx.length fx a2 av.length av a3 L.length L p L.length (w7.drewN q) HA.out.hc HA.out.hf0 HA.out.hf HA.out.hfl HA.out.hx HA.out.hx0 HA.out.hx1 hT.symm hVm HVF.out HVA.out HLV.out hple (Nat.le_refl _) HA.out.ll (by rw [hCc]; omega)
                have c0 : (0 : Int) < (C : Int) := by omega
                have jG : (G : Int) < (NM : Int) := by omega
                have jG0 : (0 : Int) ≤ (G : Int) := by omega
                have w5' : IntKind.i64.wrap ((G : Int) + 1) = (NM : Int) := by rw [IntKind.wrap_i64]; omega
                clear hne hCp hgl hga hGN hNG hel hcf hCc hT hple hVm hI hgle HI hLp hL0 hj hlt
                by_cases e1 : fx.length = 9
                · have q1 : (fx.length : Int) = 9 := by omega
                  by_cases e2 : av.length = 3991
                  · have q2 : (av.length : Int) = 3991 := by omega
                    by_cases e3 : L.length = 2
                    · have q3 : (L.length : Int) = 2 := by omega
                      obtain ⟨b, off, ba0, cb0, hla, hcl0, -, -⟩ := HLV.out.at (j := 0) (by omega)
                      subst hla
                      obtain ⟨b', off', ba1, cb1, hla1, hcl1, -, -⟩ := HLV.out.at (j := 1) (by omega)
                      cases hla1
                      rw [Nat.add_zero] at hcl0
                      obtain ⟨n0, hn0⟩ : ∃ n0, n0 = (el L 0).length := ⟨_, rfl⟩
                      obtain ⟨n1, hn1⟩ : ∃ n1, n1 = (el L 1).length := ⟨_, rfl⟩
                      rw [← hn0] at hcl0
                      rw [← hn1] at hcl1
                      have HMsg2 : Hid (∀ q, Calls Tryf.prog 33 #[.slice (some ⟨g, 0, none⟩) T cg, .int .u8 cn, .slice a1 fx.length fx.length, .slice a2 av.length av.length, .slice (some ⟨b, off, none⟩) L.length L.length, .int .i64 p, .int .i64 2] (w7.drewN q) fun e w' => e = .returned (.bool true) ∧ ∃ nq, w' = (w7.drewN q).drewN nq) := fun q => by
                        have := HMsg.out q
                        rw [q3] at this
                        exact this
                      by_cases e4 : n0 = 35
                      · have q4 : (n0 : Int) = 35 := by omega
                        by_cases e5 : n1 = 35
                        · have q5 : (n1 : Int) = 35 := by omega
                          have hN2 : NM = 2 := by
                            rw [HNM.out, show F = 4000 by omega]
                            exact ex_two e3 (by omega) (by omega)
                          have qN : (NM : Int) = 2 := by omega
                          clear hn0 hn1 e1 e2 e3 e4 e5 hN2 hFF hRR
                          go_wp2_with (first
                            | (go_at_call 33; go_must (refine (HMsg2.out _).mono ?_); rintro e w8 ⟨rfl, nq8, rfl⟩)
                            | (go_at_call 34; go_must (refine (hdr79 _).mono ?_); rintro e w9 ⟨rfl, rfl⟩)
                            | fail)
                          go_ret
                          exact ⟨rfl, HB07.out.os, HB07.out.tape, HB07.out.output, HB07.out.size, HB07.out.block⟩
                        · have q5 : ¬ (n1 : Int) = 35 := by omega
                          clear hn0 hn1 e1 e2 e3 e4 e5 hFF hRR
                          go_wp2_with (first
                            | (go_at_call 33; go_must (refine (HMsg2.out _).mono ?_); rintro e w8 ⟨rfl, nq8, rfl⟩)
                            | fail)
                          go_ret
                          exact ⟨rfl, HB07.out.os, HB07.out.tape, HB07.out.output, HB07.out.size, HB07.out.block⟩
                      · have q4 : ¬ (n0 : Int) = 35 := by omega
                        clear hn0 hn1 e1 e2 e3 e4 hFF hRR
                        go_wp2_with (first
                          | (go_at_call 33; go_must (refine (HMsg2.out _).mono ?_); rintro e w8 ⟨rfl, nq8, rfl⟩)
                          | fail)
                        go_ret
                        exact ⟨rfl, HB07.out.os, HB07.out.tape, HB07.out.output, HB07.out.size, HB07.out.block⟩
                    · have q3 : ¬ (L.length : Int) = 2 := by omega
                      clear e1 e2 e3 hFF hRR
                      go_wp2_with (first
                        | (go_at_call 33; go_must (refine (HMsg.out _).mono ?_); rintro e w8 ⟨rfl, nq8, rfl⟩)
                        | fail)
                      go_ret
                      exact ⟨rfl, HB07.out.os, HB07.out.tape, HB07.out.output, HB07.out.size, HB07.out.block⟩
                  · have q2 : ¬ (av.length : Int) = 3991 := by omega
                    clear e1 e2 hFF hRR
                    go_wp2_with (first
                      | (go_at_call 33; go_must (refine (HMsg.out _).mono ?_); rintro e w8 ⟨rfl, nq8, rfl⟩)
                      | fail)
                    go_ret
                    exact ⟨rfl, HB07.out.os, HB07.out.tape, HB07.out.output, HB07.out.size, HB07.out.block⟩
                · have q1 : ¬ (fx.length : Int) = 9 := by omega
                  clear e1 hFF hRR
                  go_wp2_with (first
                    | (go_at_call 33; go_must (refine (HMsg.out _).mono ?_); rintro e w8 ⟨rfl, nq8, rfl⟩)
                    | fail)
                  go_ret
                  exact ⟨rfl, HB07.out.os, HB07.out.tape, HB07.out.output, HB07.out.size, HB07.out.block⟩

end Go.Proofs.Qxb6003713aFmt
