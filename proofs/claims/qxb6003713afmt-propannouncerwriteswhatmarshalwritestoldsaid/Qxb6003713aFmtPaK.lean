import Derived.Test.Qxb6003713aFmtPaJ
namespace Go.Proofs.Qxb6003713aFmt
open Go.RowKit
set_option linter.unusedVariables false
set_option linter.unusedSimpArgs false

theorem upd_fx (fl cn : Int) (fx nl av : List UInt8) (j : Nat) (hj : j < fx.length) : (upd fl cn fx nl av)[23 + hdr (fx.length + nl.length) + j]? = fx[j]? := by
  rw [upd_tail, List.append_assoc, List.getElem?_append_left hj]
theorem upd_av (fl cn : Int) (fx nl av : List UInt8) (j : Nat) : (upd fl cn fx nl av)[23 + hdr (fx.length + nl.length) + fx.length + nl.length + j]? = av[j]? := by
  rw [show 23 + hdr (fx.length + nl.length) + fx.length + nl.length + j = 23 + hdr (fx.length + nl.length) + (fx.length + nl.length + j) by omega, upd_tail, List.getElem?_append_right (by simp), List.length_append]
  congr 1
  omega
theorem upd_el (fl cn : Int) (fx av : List UInt8) (L : List (List UInt8)) {a q b : Nat} (haq : a ≤ q) (hqb : q < b) (hb : b ≤ L.length) (j : Nat) (hj : j < (el L q).length) :
    (upd fl cn fx (cat L a b) av)[23 + hdr (fx.length + (cat L a b).length) + fx.length + (cat L a q).length + j]? = (el L q)[j]? := by
  rw [show 23 + hdr (fx.length + (cat L a b).length) + fx.length + (cat L a q).length + j = 23 + hdr (fx.length + (cat L a b).length) + (fx.length + ((cat L a q).length + j)) by omega, upd_tail, List.append_assoc,
    List.getElem?_append_right (by omega), show fx.length + ((cat L a q).length + j) - fx.length = (cat L a q).length + j by omega, cat_split L haq hqb hb, List.append_assoc, List.getElem?_append_right (by omega), show (cat L a q).length + j - (cat L a q).length = j by omega, List.append_assoc, List.getElem?_append_left hj]

theorem hdr_big (V : Nat) (w : World) (h : 255 < V) : Calls Tryf.prog 34 #[.int .i64 V] w fun e w' => e = .returned (.int .i64 4) ∧ w' = w := by
  have := hdr_any V w
  rwa [if_pos (by omega)] at this
theorem hdr_small (V : Nat) (w : World) (h : ¬ 255 < V) : Calls Tryf.prog 34 #[.int .i64 V] w fun e w' => e = .returned (.int .i64 3) ∧ w' = w := by
  have := hdr_any V w
  rwa [if_neg (by omega)] at this

set_option maxRecDepth 100000 in
set_option maxHeartbeats 4000000 in
theorem msgOK_any (g T c1 cn : Nat) (fl fy : Int) (fa : Option Addr) (cf : Nat) (fx : List UInt8) (aa : Option Addr) (ca : Nat) (av : List UInt8) (la : Option Addr) (lc : Nat) (L : List (List UInt8)) (a b : Nat) (w : World)
    (hc : cn < 256) (hf0 : 0 ≤ fl) (hf : fl < 256) (hfl : flagOf cn = fl) (hx : bits .or .u8 fl 16 = fy) (hx0 : 0 ≤ fy) (hx1 : fy < 256)
    (hT : (upd fl cn fx (cat L a b) av).length = T) (hM : View w (some ⟨g, 0, none⟩) (bc (upd fl cn fx (cat L a b) av))) (hVf : View w fa (bc fx)) (hVa : View w aa (bc av)) (hL : LView w la L)
    (hab : a ≤ b) (hbL : b ≤ L.length) (hLl : L.length ≤ 4096) (hlen : fx.length + (cat L a b).length + av.length ≤ 4069) :
    Calls Tryf.prog 33 #[.slice (some ⟨g, 0, none⟩) T c1, .int .u8 cn, .slice fa fx.length cf, .slice aa av.length ca, .slice la L.length lc, .int .i64 a, .int .i64 b] w fun e w' => e = .returned (.bool true) ∧ ∃ nq, w' = w.drewN nq := by
  have hul := upd_length fl cn fx (cat L a b) av
  have hcs := cells_of w g fl fy cn fx (cat L a b) av hM hc hf0 hf hx hx0 hx1 hlen
  rw [hT] at hul
  rw [← hul] at hcs
  have HM : Hid (View w (some ⟨g, 0, none⟩) (bc (upd fl cn fx (cat L a b) av))) := hM
  have HVf : Hid (View w fa (bc fx)) := hVf
  have HVa : Hid (View w aa (bc av)) := hVa
  have HL : Hid (LView w la L) := hL
  have HT : Hid ((upd fl cn fx (cat L a b) av).length = T) := hT
  have HTf : Hid (∀ j, j < fx.length → (upd fl cn fx (cat L a b) av)[23 + hdr (fx.length + (cat L a b).length) + j]? = fx[j]?) := fun j hj => upd_fx fl cn fx (cat L a b) av j hj
  have HTa : Hid (∀ j, (upd fl cn fx (cat L a b) av)[23 + hdr (fx.length + (cat L a b).length) + fx.length + (cat L a b).length + j]? = av[j]?) := fun j => upd_av fl cn fx (cat L a b) av j
  have HTe : Hid (∀ q, a ≤ q → q < b → ∀ j, j < (el L q).length → (upd fl cn fx (cat L a b) av)[23 + hdr (fx.length + (cat L a b).length) + fx.length + (cat L a q).length + j]? = (el L q)[j]?) := fun q h1 h2 j hj => upd_el fl cn fx av L h1 h2 hbL j hj
  obtain ⟨V, hV⟩ : ∃ V, V = fx.length + (cat L a b).length := ⟨_, rfl⟩
  obtain ⟨T2, hT2⟩ : ∃ T2, T2 = T - 23 := ⟨_, rfl⟩
  rw [← hV] at hul hcs HTf HTa HTe
  have HCs : Hid (Cells w g T V _ _ _ _) := hcs
  have HV : Hid (V = fx.length + (cat L a b).length) := hV
  have w1 : IntKind.i64.wrap ((fx.length : Int) + ((cat L a b).length : Int)) = (V : Int) := by rw [IntKind.wrap_i64]; omega
  have hsum : ∀ k, a ≤ k → k < b → (cat L a (k + 1)).length = (cat L a k).length + (el L k).length := fun k h1 h2 => by rw [cat_succ L h1 (by omega), List.length_append]
  have hpre : ∀ k, a ≤ k → k < b → (cat L a k).length + (el L k).length ≤ (cat L a b).length := fun k h1 h2 => by rw [cat_split L h1 h2 hbL, List.length_append, List.length_append]; omega
  have HSum : Hid (∀ k, a ≤ k → k < b → (cat L a (k + 1)).length = (cat L a k).length + (el L k).length) := hsum
  have HPre : Hid (∀ k, a ≤ k → k < b → (cat L a k).length + (el L k).length ≤ (cat L a b).length) := hpre
  have HFl : Hid (flagOf cn = fl) := hfl
  clear hM hVf hVa hL hT hsum hpre hcs hfl
  go_enter Tryf.func33, Tryf.ntmps33
  go_wp2
  go_loop [15, 16] (fun s i => ∃ k : Nat, a ≤ k ∧ k ≤ b ∧ i = .int .i64 k ∧ s = .int .i64 (((cat L a k).length : Nat) : Int)) (fun _ i => b - (intOf i).toNat)
  case atStart => exact ⟨a, Nat.le_refl _, hab, rfl, by rw [cat_self]; rfl⟩
  case round =>
    obtain ⟨k, hak, hkb, rfl, rfl⟩ := hrel
    by_cases hlt : k < b
    · obtain ⟨lb, lo, ba, cb, hla, hcl, _, _⟩ := HL.out.at (j := k) (by omega)
      subst hla
      have i1 : (0 : Int) ≤ (k : Int) := by omega
      have i2 : (k : Int) < (b : Int) := by omega
      have i3 : (k : Int) < (L.length : Int) := by omega
      have hs := HSum.out k hak hlt
      have hp := HPre.out k hak hlt
      have w2 : IntKind.i64.wrap (((cat L a k).length : Int) + ((el L k).length : Int)) = ((cat L a (k + 1)).length : Int) := by rw [IntKind.wrap_i64]; omega
      have HS := hs
      clear hs hp
      go_wp2
      go_round
      case rel => exact ⟨k + 1, by omega, by omega, by go_num, congrArg (Value.int .i64) (by omega)⟩
      case measure => simp [intOf]; omega
    · obtain rfl : k = b := by omega
      obtain ⟨p0, hp0⟩ : ∃ p0, p0 = 23 + hdr V + fx.length := ⟨_, rfl⟩
      obtain ⟨X, hX⟩ : ∃ X, X = 23 + hdr V + V := ⟨_, rfl⟩
      have hd1 : 3 ≤ hdr V := by unfold hdr; split <;> omega
      have hd2 : hdr V ≤ 4 := by unfold hdr; split <;> omega
      have w4 : IntKind.i64.wrap ((X : Int) + (av.length : Int)) = (T : Int) := by rw [IntKind.wrap_i64]; omega
      have iT : (T : Int) ≤ 4096 := by omega
      have iT2 : 26 ≤ T := by omega
      have w5 : IntKind.i64.wrap ((T : Int) - 23) = (T2 : Int) := by rw [IntKind.wrap_i64]; omega
      have k16 : Hid (w.cell? ⟨g, 16, none⟩ = some (.int .u8 ((T : Int) / 256))) := HCs.out.c16
      have k17 : Hid (w.cell? ⟨g, 17, none⟩ = some (.int .u8 ((T : Int) % 256))) := HCs.out.c17
      have k18 := HCs.out.c18
      have k19 := HCs.out.c19
      have k20 := HCs.out.c20
      have k21 : Hid (w.cell? ⟨g, 21, none⟩ = some (.int .u8 ((T2 : Int) / 256))) := by rw [Hid, hT2]; exact HCs.out.c21
      have k22 : Hid (w.cell? ⟨g, 22, none⟩ = some (.int .u8 ((T2 : Int) % 256))) := by rw [Hid, hT2]; exact HCs.out.c22
      have k23 := HCs.out.c23
      have k24 := HCs.out.c24
      have k25 := HCs.out.c25
      have k26 := HCs.out.c26
      have HP0 : Hid (p0 = 23 + hdr V + fx.length) := hp0
      have HT2 : Hid (T2 = T - 23) := hT2
      have HUL : Hid (T = 23 + hdr V + V + av.length) := hul
      by_cases hbig : 255 < V
      · have hd : hdr V = 4 := if_pos hbig
        have w3 : IntKind.i64.wrap (27 + (V : Int)) = (X : Int) := by rw [IntKind.wrap_i64]; omega
        have w6 : IntKind.i64.wrap (27 + (fx.length : Int)) = (p0 : Int) := by rw [IntKind.wrap_i64]; omega
        rw [if_pos hbig] at k23 k25
        have K25 : Hid (w.cell? ⟨g, 25, none⟩ = some (.int .u8 ((V : Int) / 256))) := k25
        have K26 : Hid (w.cell? ⟨g, 26, none⟩ = some (.int .u8 ((V : Int) % 256))) := k26 hbig
        clear k25 k26
        have hi27 : 27 ≤ T := by omega
        have i27 : (26 : Int) < (T : Int) := by omega
        have i25 : (25 : Int) < (T : Int) := by omega
        have i24 : (24 : Int) < (T : Int) := by omega
        have i23 : (23 : Int) < (T : Int) := by omega
        have i20 : (20 : Int) < (T : Int) := by omega
        have i19 : (19 : Int) < (T : Int) := by omega
        have i18 : (18 : Int) < (T : Int) := by omega
        have HD : Hid (hdr V = 4) := hd
        have HAf : Hid (∀ j, j < fx.length → (upd fl cn fx (cat L a k) av)[27 + j]? = fx[j]?) := fun j hj => by have h := HTf.out j hj; rw [hd] at h; exact h
        have HAa : Hid (∀ j, j < av.length → (upd fl cn fx (cat L a k) av)[p0 + (cat L a k).length + j]? = av[j]?) := fun j _ => by have h := HTa.out j; rw [← hp0] at h; exact h
        have HAe : Hid (∀ q, a ≤ q → q < k → ∀ j, j < (el L q).length → (upd fl cn fx (cat L a k) av)[p0 + (cat L a q).length + j]? = (el L q)[j]?) := fun q h1 h2 j hj => by have h := HTe.out q h1 h2 j hj; rw [← hp0] at h; exact h
        clear hX hp0 hul hT2 hV hd hd1 hd2
        go_wp2_with (first
          | (go_at_call 34; go_must (refine (hdr_big V _ hbig).mono ?_); rintro e w2 ⟨rfl, rfl⟩)
          | fail)
        go_loop [20] (fun i => ∃ q : Nat, q ≤ 16 ∧ i = .int .i64 q) (fun i => 16 - (intOf i).toNat)
        case atStart => exact ⟨0, Nat.zero_le _, rfl⟩
        case round =>
          obtain ⟨q, hq, rfl⟩ := hrel
          by_cases hq16 : q < 16
          · have hcell := HCs.out.c0 q hq16
            have j1 : (q : Int) < 16 := by omega
            have j2 : (q : Int) < (T : Int) := by omega
            have j3 : (0 : Int) ≤ (q : Int) := by omega
            go_wp2
            go_round
            case rel => exact ⟨q + 1, by omega, by go_num⟩
            case measure => simp [intOf]; omega
          · go_wp2_with (first
              | (go_at_call 47; have _tok := nq2; go_must (refine (be16_at (V : Int) g T c1 25 _ rfl _ (by omega) (by omega) (by omega) (by have := HV.out; omega) (by exact K25.out) (by exact K26.out)).mono ?_); rintro e w4 ⟨rfl, nq4, rfl⟩)
              | (go_at_call 47; have _tok := nq1; go_must (refine (be16_at (T2 : Int) g T c1 21 _ rfl _ (by omega) (by omega) (by omega) (by have := HT2.out; omega) (by exact k21.out) (by exact k22.out)).mono ?_); rintro e w3 ⟨rfl, nq2, rfl⟩)
              | (go_at_call 47; go_must (refine (be16_at (T : Int) g T c1 16 _ rfl _ (by omega) (by omega) (by omega) (by omega) (by exact k16.out) (by exact k17.out)).mono ?_); rintro e w2 ⟨rfl, nq1, rfl⟩)
              | (go_at_call 48; go_must (refine (flags_any cn _ hc).mono ?_); rintro e w3 ⟨rfl, rfl⟩; rw [HFl.out])
              | (go_at_call 49; go_must (refine (at_at g T c1 (upd fl cn fx (cat L a k) av) fa fx.length cf fx 27 27 (by rfl) _ HT.out rfl (by omega) (by have := HUL.out; have := HD.out; have := HV.out; omega) (HM.out.drewN _) (HVf.out.drewN _) HAf.out).mono ?_); rintro e w5 ⟨rfl, nq5, rfl⟩)
              | fail)
            go_loopw [22, 23] (fun s i wr => ∃ (m P nq : Nat), a ≤ m ∧ m ≤ k ∧ i = .int .i64 m ∧ Hid (P = p0 + (cat L a m).length) ∧ s = .int .i64 (P : Int) ∧ wr = w2.drewN nq) (fun _ i _ => k - (intOf i).toNat)
            case atStart => exact ⟨a, p0, _, Nat.le_refl _, hab, rfl, by rw [Hid, cat_self]; rfl, rfl, rfl⟩
            case round =>
              obtain ⟨m, P, nq, ham, hmk, rfl, HPm, rfl, rfl⟩ := hrel
              have hHV := HV.out
              have hHU := HUL.out
              have hHP := HP0.out
              have hHPm := HPm.out
              by_cases hml : m < k
              · obtain ⟨lb, lo, ba, cb, hla, hcl, hvb, _⟩ := HL.out.at (j := m) (by omega)
                subst hla
                have hs := HSum.out m ham hml
                have hp := HPre.out m ham hml
                obtain ⟨P', hP'⟩ : ∃ P', P' = P + (el L m).length := ⟨_, rfl⟩
                have HP' : Hid (P' = p0 + (cat L a (m + 1)).length) := by show P' = _; omega
                have w7 : IntKind.i64.wrap ((P : Int) + ((el L m).length : Int)) = (P' : Int) := by rw [IntKind.wrap_i64]; omega
                have hfitP : P + (el L m).length ≤ T := by omega
                have HVb : Hid (View w2 ba (bc (el L m))) := hvb
                have HAq : Hid (∀ j, j < (el L m).length → (upd fl cn fx (cat L a k) av)[P + j]? = (el L m)[j]?) := fun j hj => by have h := HAe.out m ham hml j hj; rw [← hHPm] at h; exact h
                have i1 : (0 : Int) ≤ (m : Int) := by omega
                have i2 : (m : Int) < (k : Int) := by omega
                have i3 : (m : Int) < (L.length : Int) := by omega
                clear hvb hs hp hP' hHV hHU hHP hHPm
                go_wp2_with (first
                  | (go_at_call 49; go_must (refine (at_at g T c1 (upd fl cn fx (cat L a k) av) ba (el L m).length cb (el L m) P _ rfl _ HT.out rfl (by omega) hfitP (HM.out.drewN _) (HVb.out.drewN _) HAq.out).mono ?_); rintro e w6 ⟨rfl, nq6, rfl⟩)
                  | fail)
                go_roundw
                case rel => exact ⟨m + 1, P', _, by omega, by omega, by go_num, HP', rfl, rfl⟩
                case measure => simp [intOf]; omega
              · obtain rfl : m = k := by omega
                have hfitP : P + av.length ≤ T := by omega
                have HAq : Hid (∀ j, j < av.length → (upd fl cn fx (cat L a m) av)[P + j]? = av[j]?) := fun j hj => by have h := HAa.out j hj; rw [← hHPm] at h; exact h
                clear hHV hHU hHP hHPm
                go_wp2_with (first
                  | (go_at_call 49; go_must (refine (at_at g T c1 (upd fl cn fx (cat L a m) av) aa av.length ca av P _ rfl _ HT.out rfl (by omega) hfitP (HM.out.drewN _) (HVa.out.drewN _) HAq.out).mono ?_); rintro e w6 ⟨rfl, nq6, rfl⟩)
                  | fail)
                go_ret
                exact ⟨rfl, _, rfl⟩
      · have hd : hdr V = 3 := if_neg hbig
        have w3 : IntKind.i64.wrap (26 + (V : Int)) = (X : Int) := by rw [IntKind.wrap_i64]; omega
        have w6 : IntKind.i64.wrap (26 + (fx.length : Int)) = (p0 : Int) := by rw [IntKind.wrap_i64]; omega
        rw [if_neg hbig] at k23 k25
        clear k26
        have i25 : (25 : Int) < (T : Int) := by omega
        have i24 : (24 : Int) < (T : Int) := by omega
        have i23 : (23 : Int) < (T : Int) := by omega
        have i20 : (20 : Int) < (T : Int) := by omega
        have i19 : (19 : Int) < (T : Int) := by omega
        have i18 : (18 : Int) < (T : Int) := by omega
        have HD : Hid (hdr V = 3) := hd
        have HAf : Hid (∀ j, j < fx.length → (upd fl cn fx (cat L a k) av)[26 + j]? = fx[j]?) := fun j hj => by have h := HTf.out j hj; rw [hd] at h; exact h
        have HAa : Hid (∀ j, j < av.length → (upd fl cn fx (cat L a k) av)[p0 + (cat L a k).length + j]? = av[j]?) := fun j _ => by have h := HTa.out j; rw [← hp0] at h; exact h
        have HAe : Hid (∀ q, a ≤ q → q < k → ∀ j, j < (el L q).length → (upd fl cn fx (cat L a k) av)[p0 + (cat L a q).length + j]? = (el L q)[j]?) := fun q h1 h2 j hj => by have h := HTe.out q h1 h2 j hj; rw [← hp0] at h; exact h
        clear hX hp0 hul hT2 hV hd hd1 hd2
        go_wp2_with (first
          | (go_at_call 34; go_must (refine (hdr_small V _ hbig).mono ?_); rintro e w2 ⟨rfl, rfl⟩)
          | fail)
        go_loop [20] (fun i => ∃ q : Nat, q ≤ 16 ∧ i = .int .i64 q) (fun i => 16 - (intOf i).toNat)
        case atStart => exact ⟨0, Nat.zero_le _, rfl⟩
        case round =>
          obtain ⟨q, hq, rfl⟩ := hrel
          by_cases hq16 : q < 16
          · have hcell := HCs.out.c0 q hq16
            have j1 : (q : Int) < 16 := by omega
            have j2 : (q : Int) < (T : Int) := by omega
            have j3 : (0 : Int) ≤ (q : Int) := by omega
            go_wp2
            go_round
            case rel => exact ⟨q + 1, by omega, by go_num⟩
            case measure => simp [intOf]; omega
          · go_wp2_with (first
              | (go_at_call 47; have _tok := nq1; go_must (refine (be16_at (T2 : Int) g T c1 21 _ rfl _ (by omega) (by omega) (by omega) (by have := HT2.out; omega) (by exact k21.out) (by exact k22.out)).mono ?_); rintro e w3 ⟨rfl, nq2, rfl⟩)
              | (go_at_call 47; go_must (refine (be16_at (T : Int) g T c1 16 _ rfl _ (by omega) (by omega) (by omega) (by omega) (by exact k16.out) (by exact k17.out)).mono ?_); rintro e w2 ⟨rfl, nq1, rfl⟩)
              | (go_at_call 48; go_must (refine (flags_any cn _ hc).mono ?_); rintro e w3 ⟨rfl, rfl⟩; rw [HFl.out])
              | (go_at_call 49; go_must (refine (at_at g T c1 (upd fl cn fx (cat L a k) av) fa fx.length cf fx 26 26 (by rfl) _ HT.out rfl (by omega) (by have := HUL.out; have := HD.out; have := HV.out; omega) (HM.out.drewN _) (HVf.out.drewN _) HAf.out).mono ?_); rintro e w5 ⟨rfl, nq5, rfl⟩)
              | fail)
            go_loopw [22, 23] (fun s i wr => ∃ (m P nq : Nat), a ≤ m ∧ m ≤ k ∧ i = .int .i64 m ∧ Hid (P = p0 + (cat L a m).length) ∧ s = .int .i64 (P : Int) ∧ wr = w2.drewN nq) (fun _ i _ => k - (intOf i).toNat)
            case atStart => exact ⟨a, p0, _, Nat.le_refl _, hab, rfl, by rw [Hid, cat_self]; rfl, rfl, rfl⟩
            case round =>
              obtain ⟨m, P, nq, ham, hmk, rfl, HPm, rfl, rfl⟩ := hrel
              have hHV := HV.out
              have hHU := HUL.out
              have hHP := HP0.out
              have hHPm := HPm.out
              by_cases hml : m < k
              · obtain ⟨lb, lo, ba, cb, hla, hcl, hvb, _⟩ := HL.out.at (j := m) (by omega)
                subst hla
                have hs := HSum.out m ham hml
                have hp := HPre.out m ham hml
                obtain ⟨P', hP'⟩ : ∃ P', P' = P + (el L m).length := ⟨_, rfl⟩
                have HP' : Hid (P' = p0 + (cat L a (m + 1)).length) := by show P' = _; omega
                have w7 : IntKind.i64.wrap ((P : Int) + ((el L m).length : Int)) = (P' : Int) := by rw [IntKind.wrap_i64]; omega
                have hfitP : P + (el L m).length ≤ T := by omega
                have HVb : Hid (View w2 ba (bc (el L m))) := hvb
                have HAq : Hid (∀ j, j < (el L m).length → (upd fl cn fx (cat L a k) av)[P + j]? = (el L m)[j]?) := fun j hj => by have h := HAe.out m ham hml j hj; rw [← hHPm] at h; exact h
                have i1 : (0 : Int) ≤ (m : Int) := by omega
                have i2 : (m : Int) < (k : Int) := by omega
                have i3 : (m : Int) < (L.length : Int) := by omega
                clear hvb hs hp hP' hHV hHU hHP hHPm
                go_wp2_with (first
                  | (go_at_call 49; go_must (refine (at_at g T c1 (upd fl cn fx (cat L a k) av) ba (el L m).length cb (el L m) P _ rfl _ HT.out rfl (by omega) hfitP (HM.out.drewN _) (HVb.out.drewN _) HAq.out).mono ?_); rintro e w6 ⟨rfl, nq6, rfl⟩)
                  | fail)
                go_roundw
                case rel => exact ⟨m + 1, P', _, by omega, by omega, by go_num, HP', rfl, rfl⟩
                case measure => simp [intOf]; omega
              · obtain rfl : m = k := by omega
                have hfitP : P + av.length ≤ T := by omega
                have HAq : Hid (∀ j, j < av.length → (upd fl cn fx (cat L a m) av)[P + j]? = av[j]?) := fun j hj => by have h := HAa.out j hj; rw [← hHPm] at h; exact h
                clear hHV hHU hHP hHPm
                go_wp2_with (first
                  | (go_at_call 49; go_must (refine (at_at g T c1 (upd fl cn fx (cat L a m) av) aa av.length ca av P _ rfl _ HT.out rfl (by omega) hfitP (HM.out.drewN _) (HVa.out.drewN _) HAq.out).mono ?_); rintro e w6 ⟨rfl, nq6, rfl⟩)
                  | fail)
                go_ret
                exact ⟨rfl, _, rfl⟩

end Go.Proofs.Qxb6003713aFmt
