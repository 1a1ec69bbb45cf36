import Derived.Test.Qxb6003713aFmtAnY
namespace Go.Proofs.Qxb6003713aFmt
open Go.RowKit
set_option linter.unusedVariables false
set_option linter.unusedSimpArgs false

set_option maxRecDepth 100000 in
set_option maxHeartbeats 8000000 in
theorem ann_01 (n la pa : Nat) (a4 : Bool) (o : Nat → UInt8) (p4 p6 : Addr) (ca : Option Addr) (cc : Nat) (cs : List (Nat → UInt8)) (pp : Option Addr) (pm : Option PI) (ra : Option Addr) (rc : Nat) (rs : List RI) (w : World)
    (hfl : Fl w) (hzs : Zs w p4 p6) (hcv : CV w ca cs) (hpv : PMV w pp pm) (hrv : RV w ra rs) (hB : Bd n la cs pm) (hrs : rs.length ≤ 4096) (hfine : ∀ r ∈ rs, r.fine) (hc : cs.length = 0) (hp : pm ≠ none) :
    Calls Tryf.prog 5 #[.int .u8 n, .agg (ar16 o), .slice ca cs.length cc, .pointer pp, .agg #[.int .u32 la, .int .u32 pa, .bool a4], .slice ra rs.length rc] w fun e w' => e = .returned (.bool true) ∧ Below w.heap.size w w' := by
  obtain ⟨i0, hi, hz0, hz1, hz2⟩ := info_parts Tryf.info23
  obtain ⟨X, hX⟩ : ∃ X, X = (w.alloc (.cells (ar16 o) 39)).alloc (.cells #[.int .u32 la, .int .u32 pa, .bool a4] 44) := ⟨_, rfl⟩
  have HXw : Hid (Below w.heap.size w X) := by rw [hX]; exact ((Below.refl _ _).alloc (Nat.le_refl _) _).alloc (by simp) _
  have HIn : Hid (∀ W, Below X.heap.size X W → In W w.heap.size o la pa a4 ca cs pp pm ra rs p4 p6) := fun W hb => by
    have h0 : In X w.heap.size o la pa a4 ca cs pp pm ra rs p4 p6 := by
      have hbx := boxed2 (w := w) (T := 39) (U := 44) (xs := ar16 o) (ys := #[.int .u32 la, .int .u32 pa, .bool a4]) (w1 := X) (by rw [hX]; exact Below.refl _ _)
      exact ⟨hfl.later HXw.out, hzs.later HXw.out, hcv.later HXw.out, hpv.later HXw.out, hrv.later HXw.out, hbx.2, hbx.1⟩
    exact h0.later hb
  have HBd := Hid.mk'' hB
  have HFine := Hid.mk'' hfine
  have HRs := Hid.mk'' hrs
  obtain ⟨N, hN⟩ : ∃ N, N = rs.length := ⟨_, rfl⟩
  have HN : Hid (N = rs.length) := hN
  obtain ⟨m, hm⟩ : ∃ m, m = cs.length := ⟨_, rfl⟩
  have HM : Hid (m = cs.length) := hm
  rw [← hN, ← hm]
  have j1 : (N : Int) ≤ 4096 := by omega
  have j2 : (m : Int) ≤ 4096 := by have := hB.cs; omega
  have j3 : ¬ (4096 : Int) < (N : Int) := by omega
  have j4 : ¬ (4096 : Int) < (m : Int) := by omega
  obtain ⟨q, rfl⟩ : ∃ q, pm = some q := by cases pm with | none => exact absurd rfl hp | some q => exact ⟨q, rfl⟩
  obtain ⟨pb, po, ta, tc, rfl, -⟩ : ∃ pb po ta tc, pp = some ⟨pb, po, none⟩ ∧ w.cell? ⟨pb, po + 3, none⟩ = some (.slice ta q.tid.length tc) := by obtain ⟨pb, po, ta, tc, h, _, _, _, h3, _⟩ := hpv; exact ⟨pb, po, ta, tc, h, h3⟩
  have HPV : Hid (∀ W, Below X.heap.size X W → PMV W (some ⟨pb, po, none⟩) (some q)) := fun W hb => (HIn.out W hb).pv
  obtain ⟨ta, tc, hTa⟩ : ∃ ta tc, Hid (∀ W, Below X.heap.size X W → W.cell? ⟨pb, po, none⟩ = some (.int .u8 q.fl) ∧ W.cell? ⟨pb, po + 1, none⟩ = some (.int .u8 q.tt) ∧ W.cell? ⟨pb, po + 2, none⟩ = some (.int .u32 q.lb) ∧ W.cell? ⟨pb, po + 3, none⟩ = some (.slice ta q.tid.length tc) ∧ View W ta (bc q.tid) ∧ (ta = none → q.tid = [])) := by
    obtain ⟨pb', po', ta, tc, h, h0, h1, h2, h3, h4, h5⟩ := HPV.out X (Below.refl _ _)
    cases h
    exact ⟨ta, tc, fun W hb => ⟨cell_later hb h0, cell_later hb h1, cell_later hb h2, cell_later hb h3, h4.all hb, h5⟩⟩
  have j5 : ¬ (4096 : Int) < (q.tid.length : Int) := by have := (hB.pm q rfl).2.2.2; omega
  obtain ⟨d0, d1, d2, d3, -⟩ := hTa.out X (Below.refl _ _)
  have j6 : m = 0 := by omega
  subst j6
  obtain ⟨z, hz⟩ : ∃ z, z = roomOf n 0 (some q) la pa a4 := ⟨_, rfl⟩
  have HRoom : Hid (roomOf n 0 (some q) la pa a4 = z) := hz.symm
  clear hfl hzs hcv hrv hB hrs hfine hc hN hm hz
  go_enter Tryf.func5, Tryf.ntmps5
  go_upto_region 1 with fail
  rw [← hX]
  clear hX
  go_cut [36] from 31 to 35 (fun s wx => s = .bool false ∧ wx = X)
  case first =>
    rcases HBd.out.n with rfl | rfl
    all_goals (
      go_wp2_with fail
      go_meet
      exact ⟨rfl, rfl⟩)
  case rest =>
  obtain ⟨rfl, hwx⟩ := hcut
  subst wc
  obtain ⟨e0, e1, e2⟩ : X.cell? ⟨w.heap.size + 1, 0, none⟩ = some (.int .u32 la) ∧ X.cell? ⟨w.heap.size + 1, 1, none⟩ = some (.int .u32 pa) ∧ X.cell? ⟨w.heap.size + 1, 2, none⟩ = some (.bool a4) := ⟨(HIn.out X (Below.refl _ _)).b2.cell 0, (HIn.out X (Below.refl _ _)).b2.cell 1, (HIn.out X (Below.refl _ _)).b2.cell 2⟩
  go_wp2_with (first
    | (go_at_call 13; refine (room_any n 0 (some ⟨pb, po, none⟩) (some q) la pa a4 _ (by have := HBd.out.n; omega) (by omega) (fun q' h => (HBd.out.pm q' h).2.2.2) (HIn.out X (Below.refl _ _)).pv).mono ?_; rintro e w1 ⟨rfl, hb1⟩; rw [HRoom.out]; have HB1 := Hid.mk'' hb1; clear hb1)
    | fail)
  go_loopw [14] (fun i wr => ∃ (k : Nat), k ≤ N ∧ i = .int .i64 k ∧ Hid (∀ j r, j < k → rs[j]? = some r → r.ok ∧ r.len ≤ z) ∧ Hid (Below X.heap.size X wr)) (fun i _ => N - (intOf i).toNat)
  case atStart => exact ⟨0, Nat.zero_le _, rfl, (fun j r h => absurd h (Nat.not_lt_zero _)), HB1⟩
  case round =>
    obtain ⟨k, hk, rfl, HG, HBr⟩ := hrel
    by_cases hlt : k < N
    · obtain ⟨r, hr⟩ : ∃ r, rs[k]? = some r := ⟨_, List.getElem?_eq_getElem (by have := HN.out; omega)⟩
      have HR := Hid.mk'' hr
      have HRf : Hid (r.fine) := HFine.out r (List.mem_of_getElem? hr)
      obtain ⟨rb, ro, hra, hrow⟩ : ∃ rb ro, ra = some ⟨rb, ro, none⟩ ∧ RC wr rb (ro + k * 46) r.ins := by
        rcases (HIn.out wr HBr.out).rv with h | ⟨rb, ro, e, h⟩
        · rw [h] at hr; cases hr
        · exact ⟨rb, ro, e, h k r hr⟩
      subst hra
      have HRow := Hid.mk'' hrow
      have c26 : wr.cell? ⟨rb, ro + k * 46 + 26, none⟩ = some (.int .u8 r.n) := hrow.2 26 (by show 26 < 46; omega)
      have i1 : (0 : Int) ≤ (k : Int) := by omega
      have i2 : (k : Int) < (N : Int) := by omega
      clear hrow hr
      by_cases hn3 : r.n = 0 ∨ r.n = 4 ∨ r.n = 16
      · have HN3 := Hid.mk'' hn3
        obtain ⟨nn, hnn⟩ : ∃ nn, nn = r.n := ⟨_, rfl⟩
        have HNn : Hid (nn = 0 ∨ nn = 4 ∨ nn = 16) := by rw [hnn]; exact hn3
        rw [← hnn] at c26
        clear hn3 hnn
        go_upto_region 11 with fail
        go_cut [88] from 61 to 100 (fun s wx => s = .bool false ∧ wx = wr)
        case first =>
          rcases HNn.out with rfl | rfl | rfl
          all_goals (
            go_wp2_with fail
            go_meet
            exact ⟨rfl, rfl⟩)
        case rest =>
        obtain ⟨rfl, hwx⟩ := hcut
        subst wc
        obtain ⟨lz, hlz⟩ : ∃ lz, lz = r.len := ⟨_, rfl⟩
        have HLz : Hid (r.len = lz) := hlz.symm
        clear hlz
        by_cases hneg : lz < 0
        · have i3 : decide (lz < 0) = true := decide_eq_true hneg
          go_wp2_with (first
            | (refine wpList_load_mid rfl 53 (.tmp 91) rfl _ _ rfl r.ins.toList _ HRow.out.range Tryf.underlying53 rfl info53 ?_; simp only [Array.toArray_toList])
            | (go_at_call 14; refine (nlen_any r _ HRf.out.n).mono ?_; rintro e w2 ⟨rfl, hb2⟩; rw [HLz.out]; have HB2 := Hid.mk'' (HBr.out.trans (hb2.mono HBr.out.size)); clear hb2)
            | fail)
          go_ret
          exact ⟨rfl, HXw.out.trans (HB2.out.mono HXw.out.size)⟩
        · have i3 : decide (lz < 0) = false := decide_eq_false hneg
          by_cases hbig : z < lz
          · go_wp2_with (first
            | (refine wpList_load_mid rfl 53 (.tmp 91) rfl _ _ rfl r.ins.toList _ HRow.out.range Tryf.underlying53 rfl info53 ?_; simp only [Array.toArray_toList])
            | (go_at_call 14; refine (nlen_any r _ HRf.out.n).mono ?_; rintro e w2 ⟨rfl, hb2⟩; rw [HLz.out]; have HB2 := Hid.mk'' (HBr.out.trans (hb2.mono HBr.out.size)); clear hb2)
            | fail)
            go_ret
            exact ⟨rfl, HXw.out.trans (HB2.out.mono HXw.out.size)⟩
          · go_wp2_with (first
            | (refine wpList_load_mid rfl 53 (.tmp 91) rfl _ _ rfl r.ins.toList _ HRow.out.range Tryf.underlying53 rfl info53 ?_; simp only [Array.toArray_toList])
            | (go_at_call 14; refine (nlen_any r _ HRf.out.n).mono ?_; rintro e w2 ⟨rfl, hb2⟩; rw [HLz.out]; have HB2 := Hid.mk'' (HBr.out.trans (hb2.mono HBr.out.size)); clear hb2)
            | fail)
            go_roundw
            case rel =>
              refine ⟨k + 1, by omega, by go_num, fun j r' hj hr' => ?_, HB2⟩
              by_cases hjk : j < k
              · exact HG.out j r' hjk hr'
              · obtain rfl : j = k := by omega
                obtain rfl : r = r' := Option.some.inj (HR.out.symm.trans hr')
                exact ⟨RI.ok_of HRf.out HN3.out (by rw [HLz.out]; omega), by rw [HLz.out]; omega⟩
            case measure => simp [intOf]; omega
      · have k0 : ¬ (r.n : Int) = 0 := by omega
        have k4 : ¬ (r.n : Int) = 4 := by omega
        have k6 : ¬ (r.n : Int) = 16 := by omega
        have q0 : ((r.n : Int) != 0) = true := by simp; omega
        have q4 : ((r.n : Int) != 4) = true := by simp; omega
        have q6 : ((r.n : Int) != 16) = true := by simp; omega
        clear hn3
        go_wp2_with fail
        go_ret
        exact ⟨rfl, HXw.out.trans (HBr.out.mono HXw.out.size)⟩
    · obtain rfl : N = k := by omega
      have HGood : Hid (∀ r ∈ rs, r.ok ∧ r.len ≤ z) := fun r hr => by
        obtain ⟨i, hi, e⟩ := List.getElem_of_mem hr
        exact HG.out i r (by have := HN.out; omega) (by rw [List.getElem?_eq_getElem hi, e])
      clear HG
      go_upto_region 24 with (first
        | (refine wpList_load_mid rfl 39 (.tmp 7) rfl _ _ rfl (ar16 o).toList _ (rangeBlk (HIn.out _ HBr.out).b1) Tryf.underlying39 rfl info39 ?_; simp only [Array.toArray_toList])
        | (go_at_call 15; refine (zaddr_c p4 p6 n _ o _ (HIn.out _ HBr.out).zs (oct16 o)).mono ?_; rintro e w3 ⟨rfl, hb3⟩; have HB3 := Hid.mk'' (HBr.out.trans (hb3.mono HBr.out.size)); clear hb3)
        | fail)
      obtain ⟨wB, hwB⟩ : ∃ wB, wB = w3.alloc (.cells #[.int .u64 (aHi n o : Nat), .int .u64 (aLo n o : Nat), .pointer (aZ p4 p6 n), .slice none 0 0, .pointer none, .int .u8 0, .slice none 0 0, .int .u32 0, .int .u32 0] 69) := ⟨_, rfl⟩
      obtain ⟨ab, hab⟩ : ∃ ab, ab = w3.heap.size := ⟨_, rfl⟩
      have HAb0 : Hid (Blk wB ab 69 #[.int .u64 (aHi n o : Nat), .int .u64 (aLo n o : Nat), .pointer (aZ p4 p6 n), .slice none 0 0, .pointer none, .int .u8 0, .slice none 0 0, .int .u32 0, .int .u32 0]) := by subst hwB hab; exact Blk.new _ _ _
      have HBB : Hid (Below X.heap.size X wB) := by subst hwB; exact HB3.out.alloc HB3.out.size _
      have HXa : Hid (X.heap.size ≤ ab) := by subst hab; exact HB3.out.size
      rw [← hwB, ← hab]
      clear hwB hab d0 d1 d2 d3
      obtain ⟨d0, d1, d2, d3, dV, dn⟩ := hTa.out wB HBB.out
      have HdV := Hid.mk'' dV
      have Hdn := Hid.mk'' dn
      clear dV dn
      go_region_held3 (fun w' => w'.cell? ⟨pb, po, none⟩ = some (.int .u8 q.fl) ∧ w'.cell? ⟨pb, po + 1, none⟩ = some (.int .u8 q.tt) ∧ w'.cell? ⟨pb, po + 2, none⟩ = some (.int .u32 q.lb) ∧ w'.cell? ⟨pb, po + 3, none⟩ = some (.slice ta q.tid.length tc)) ((first | go_keep | exact four (hTa.out _ HB5.out) | exact four (hTa.out _ HB4.out))) ((first
        | (go_at_call 16; refine (clone_bytes ta tc q.tid _ (by exact HdV.out) Hdn.out (by have := (HBd.out.pm q rfl).2.2.2; omega)).mono ?_; rintro e w4 ⟨a4t, rfl, hV4, hn4, hp4, hb4⟩; have HB4 := Hid.mk'' ((below_drew HBB.out).trans (hb4.mono (below_drew HBB.out).size)); have HV4 := Hid.mk'' hV4; have HN4 : Hid (a4t = none → q.tid = []) := (fun h => List.eq_nil_of_length_eq_zero (hn4 h)); have HP4 : Hid (∀ b off, a4t = some ⟨b, off, none⟩ → b ≠ ab) := (fun b off e h => by have h1 := (hp4 b off e).1; have h2 : ab < wB.drew.heap.size := HAb0.out.lt; omega); have HA4 := Hid.mk'' (blk_on hb4 (show Blk wB.drew ab 69 #[.int .u64 (aHi n o : Nat), .int .u64 (aLo n o : Nat), .pointer (aZ p4 p6 n), .slice none 0 0, .pointer none, .int .u8 0, .slice none 0 0, .int .u32 0, .int .u32 0] from HAb0.out)); have HB5 : Hid (Below X.heap.size X ((w4.setCell ⟨ab, 4, none⟩ (.pointer (some ⟨w4.heap.size, 0, none⟩))).alloc (.cells #[.int .u8 q.fl, .int .u8 q.tt, .int .u32 q.lb, .slice a4t q.tid.length q.tid.length] 76))) := ((HB4.out.setCell (p := ⟨ab, 4, none⟩) HXa.out _).alloc (by simpa using HB4.out.size) _); have g4 : w4.cell? ⟨ab, 4, none⟩ = some (.pointer none) := HA4.out.cell 4; have f4 := HA4.out.frozen 4; have hl4 : ab < w4.heap.size := HA4.out.lt; have hl4' : ¬ ab = w4.heap.size := Nat.ne_of_lt hl4; clear hV4 hn4 hp4 hb4)
        | fail))
      go_upto_region 25 with fail
      have HAb5 : Hid (Blk ((w4.setCell ⟨ab, 4, none⟩ (.pointer (some ⟨w4.heap.size, 0, none⟩))).alloc (.cells #[.int .u8 q.fl, .int .u8 q.tt, .int .u32 q.lb, .slice a4t q.tid.length q.tid.length] 76)) ab 69 #[.int .u64 (aHi n o : Nat), .int .u64 (aLo n o : Nat), .pointer (aZ p4 p6 n), .slice none 0 0, .pointer (some ⟨w4.heap.size, 0, none⟩), .int .u8 0, .slice none 0 0, .int .u32 0, .int .u32 0]) := blk_on ((Below.refl _ _).alloc (Nat.le_refl _) _) (HA4.out.set 4 _)
      have HT5 : Hid (TV ((w4.setCell ⟨ab, 4, none⟩ (.pointer (some ⟨w4.heap.size, 0, none⟩))).alloc (.cells #[.int .u8 q.fl, .int .u8 q.tt, .int .u32 q.lb, .slice a4t q.tid.length q.tid.length] 76)) (some ⟨w4.heap.size, 0, none⟩) (some q)) := by
        refine ⟨w4.heap.size, a4t, q.tid.length, rfl, ?_, ?_, HN4.out⟩
        · have h := Blk.new (w4.setCell ⟨ab, 4, none⟩ (.pointer (some ⟨w4.heap.size, 0, none⟩))) 76 #[.int .u8 q.fl, .int .u8 q.tt, .int .u32 q.lb, .slice a4t q.tid.length q.tid.length]
          simpa using h
        · exact (HV4.out.kept ((Kept.refl w4 (fun i => i = ab)).set (k := 4) (.inl rfl) _) (fun b off e q => HP4.out b off e q)).alloc _
      obtain ⟨wA, hwA⟩ : ∃ wA, wA = ((w4.setCell ⟨ab, 4, none⟩ (.pointer (some ⟨w4.heap.size, 0, none⟩))).alloc (.cells #[.int .u8 q.fl, .int .u8 q.tt, .int .u32 q.lb, .slice a4t q.tid.length q.tid.length] 76)) := ⟨_, rfl⟩
      obtain ⟨tb, htb⟩ : ∃ tb, tb = w4.heap.size := ⟨_, rfl⟩
      rw [← hwA, ← htb] at HAb5 HT5
      rw [← hwA] at HB5
      rw [← hwA]
      have HAb := HAb5
      have HBA := HB5
      clear HAb5 HB5 hwA htb g4 f4 hl4 hl4' d0 d1 d2 d3
      have HAT : Hid (AT wA ab n o p4 p6 none 0 cs (some ⟨tb, 0, none⟩) (some q)) := ⟨HAb.out.cell 0, HAb.out.cell 1, HAb.out.cell 2, (by rw [← HM.out]; exact HAb.out.cell 3), HAb.out.cell 4, .inl (List.eq_nil_of_length_eq_zero HM.out.symm), HT5.out⟩
      obtain ⟨L, hL⟩ : ∃ L, L = rs.map RI.oct := ⟨_, rfl⟩
      have HL : Hid (L = rs.map RI.oct) := hL
      have HLN : Hid (L.length = N) := by rw [Hid, hL, HN.out]; simp
      clear hL
      obtain ⟨e0, e1, e2⟩ : wA.cell? ⟨w.heap.size + 1, 0, none⟩ = some (.int .u32 la) ∧ wA.cell? ⟨w.heap.size + 1, 1, none⟩ = some (.int .u32 pa) ∧ wA.cell? ⟨w.heap.size + 1, 2, none⟩ = some (.bool a4) := ⟨(HIn.out wA HBA.out).b2.cell 0, (HIn.out wA HBA.out).b2.cell 1, (HIn.out wA HBA.out).b2.cell 2⟩
      have HGd : Hid (∀ r ∈ rs, r.ok ∧ r.len ≤ roomOf n cs.length (some q) la pa a4) := fun r hr => by have h := HGood.out r hr; rw [← HRoom.out, HM.out] at h; exact h
      go_wp2_with (first
        | (go_at_call 17; refine (newann_any ab n la pa a4 o p4 p6 none 0 cs (some ⟨tb, 0, none⟩) (some q) _ (HIn.out wA HBA.out).fl (HIn.out wA HBA.out).zs HAT.out HBd.out).mono ?_; rintro e w5 ⟨wl, fa, cf, aa, ca2, rfl, hw5, hpk⟩; have HBwl := Hid.mk'' (HBA.out.trans (hpk.2.2.2.2.2.2.2.mono HBA.out.size)); have HPE := Hid.mk'' (pe_of hpk (HIn.out wl HBwl.out).fl HL.out HBd.out.n HGd.out); have HLS0 : Hid (LS wl (.int .u8 14) (.slice fa (fxOf n o).length cf) (.slice aa (avOf la pa a4 cs (some q)).length ca2) w5 (.slice none 0 0) (.slice none 0 0) (.slice none 0 0) (.slice none 0 0) (cur ((fxOf n o).length + (avOf la pa a4 cs (some q)).length) L 0) [] ((gr ((fxOf n o).length + (avOf la pa a4 cs (some q)).length) L 0).map (fun g => upd (flagOf 14) (14 : Nat) (fxOf n o) g (avOf la pa a4 cs (some q)))) ((gr ((fxOf n o).length + (avOf la pa a4 cs (some q)).length) L 0).map (fun g => upd (flagOf 14) (14 : Nat) (fxOf n o) g (avOf la pa a4 cs (some q))))) := (by rw [hw5]; exact ls0); have HAwl : Hid (Below wA.heap.size wA wl) := hpk.2.2.2.2.2.2.2; clear hw5 hpk)
        | fail)
      go_loopw [20, 21, 22] (fun g s i wr => ∃ (k : Nat) (v nv : Value) (l : List UInt8), k ≤ N ∧ i = .int .i64 k ∧ Hid (LS wl (.int .u8 14) (.slice fa (fxOf n o).length cf) (.slice aa (avOf la pa a4 cs (some q)).length ca2) wr v nv g s (cur ((fxOf n o).length + (avOf la pa a4 cs (some q)).length) L k) l ((gr ((fxOf n o).length + (avOf la pa a4 cs (some q)).length) L k).map (fun g => upd (flagOf 14) (14 : Nat) (fxOf n o) g (avOf la pa a4 cs (some q)))) ((gr ((fxOf n o).length + (avOf la pa a4 cs (some q)).length) L k).map (fun g => upd (flagOf 14) (14 : Nat) (fxOf n o) g (avOf la pa a4 cs (some q)))))) (fun _ _ i _ => N - (intOf i).toNat)
      case atStart => exact ⟨0, _, _, _, Nat.zero_le _, rfl, HLS0⟩
      case round =>
        obtain ⟨k, v, nv, l, hk, rfl, HS⟩ := hrel
        have HBr3 := Hid.mk'' (HBwl.out.trans (HS.out.below.mono HBwl.out.size))
        by_cases hlt : k < N
        · obtain ⟨r, hr⟩ : ∃ r, rs[k]? = some r := ⟨_, List.getElem?_eq_getElem (by have := HN.out; omega)⟩
          have HOK : Hid (r.ok) := (HGd.out r (List.mem_of_getElem? hr)).1
          have HEl : Hid (r.oct = el L k) := (el_map HL.out hr).symm
          have hkL : k < L.length := by have := HLN.out; omega
          have hgl := gr_le ((fxOf n o).length + (avOf la pa a4 cs (some q)).length) L k
          obtain ⟨rb, ro, hra, hrow⟩ : ∃ rb ro, ra = some ⟨rb, ro, none⟩ ∧ RC wr rb (ro + k * 46) r.ins := by
            rcases (HIn.out wr HBr3.out).rv with h | ⟨rb, ro, e, h⟩
            · rw [h] at hr; cases hr
            · exact ⟨rb, ro, e, h k r hr⟩
          subst hra
          have HRow := Hid.mk'' hrow
          have HZl := Hid.mk'' (HIn.out wl HBwl.out).zs
          have i1 : (0 : Int) ≤ (k : Int) := by omega
          have i2 : (k : Int) < (N : Int) := by omega
          clear hrow hr
          by_cases hf : 4069 < ((fxOf n o).length + (avOf la pa a4 cs (some q)).length) + (cur ((fxOf n o).length + (avOf la pa a4 cs (some q)).length) L k).length + (el L k).length
          · have HF := Hid.mk'' hf
            clear hf
            have HCl : Hid (((fxOf n o).length + (avOf la pa a4 cs (some q)).length) + (cur ((fxOf n o).length + (avOf la pa a4 cs (some q)).length) L k).length ≤ 4069) := cur_fits (F := ((fxOf n o).length + (avOf la pa a4 cs (some q)).length)) (L := L) (.inl (by have := HPE.out.fit k hkL; omega)) HPE.out.fit k (by omega) (by omega)
            go_wp2_with (first
              | (at_builtin; have _tok := HPs; go_must (refine wpList_append_any _ rfl (.tmp 179) (.tmp 182) 37 37 rfl (wl.heap.size + 2) 23 i0 (.slice none 0 0) 1 24 Tryf.underlying37 hi hz0 hz1 hz2 rfl u21 _ ys (by rfl) (by exact World.ownsRow.alloc HYs.out _) _ 1 [.slice (some ⟨w9.heap.size, 0, none⟩) bn bn] (by rfl) (by exact Src.one w10 Tryf.underlying37 _ _ _ 23) (by rw [List.length_map]; unfold maxLen; omega) (by rw [List.length_map]; omega) (by have := HS10.out.size; simp; omega) ?_); intro s11 w11 hown hext _ _; have HS11 := Hid.mk'' (HPs.out _ s11 w11 hown hext); clear hown hext)
              | (go_at_call 16; have _tok := HS9; refine (clone_msg bb bn bq _ _ HV9.out HBn.out HBnl.out).mono ?_; rintro e w10 ⟨rfl, hV10, hlt10, hb10⟩; have HS10 := Hid.mk'' (HS9.out.later hb10); obtain ⟨ys, hys, hps⟩ := HS10.out.pushs; have HYs := Hid.mk'' hys; have HPs : Hid (∀ (ob : Obj) (s' : Value) (W' : World), W'.ownsRow (wl.heap.size + 2) 23 1 s' (((gr ((fxOf n o).length + (avOf la pa a4 cs (some q)).length) L k).map (fun g => upd (flagOf 14) (14 : Nat) (fxOf n o) g (avOf la pa a4 cs (some q)))).length + 1) (ys ++ [.slice (some ⟨w9.heap.size, 0, none⟩) bn bn]) → Ext (w10.alloc ob) W' u21 s' → LS wl (.int .u8 14) (.slice fa (fxOf n o).length cf) (.slice aa (avOf la pa a4 cs (some q)).length ca2) W' v8 nv8 g9 s' (cur ((fxOf n o).length + (avOf la pa a4 cs (some q)).length) L (k + 1)) (el L k) ((gr ((fxOf n o).length + (avOf la pa a4 cs (some q)).length) L (k + 1)).map (fun g => upd (flagOf 14) (14 : Nat) (fxOf n o) g (avOf la pa a4 cs (some q)))) ((gr ((fxOf n o).length + (avOf la pa a4 cs (some q)).length) L (k + 1)).map (fun g => upd (flagOf 14) (14 : Nat) (fxOf n o) g (avOf la pa a4 cs (some q))))) := (fun ob s' W' h1 h2 => by have h := hps ob s' W' _ _ bn bn h1 h2 hV10 HBn.out HS9.out.size hlt10 (HS9.out.fresh (Nat.le_refl _)); have e : (gr ((fxOf n o).length + (avOf la pa a4 cs (some q)).length) L (k + 1)).map (fun g => upd (flagOf 14) (14 : Nat) (fxOf n o) g (avOf la pa a4 cs (some q))) = (gr ((fxOf n o).length + (avOf la pa a4 cs (some q)).length) L k).map (fun g => upd (flagOf 14) (14 : Nat) (fxOf n o) g (avOf la pa a4 cs (some q))) ++ [upd (flagOf 14) (14 : Nat) (fxOf n o) (cur ((fxOf n o).length + (avOf la pa a4 cs (some q)).length) L k) (avOf la pa a4 cs (some q))] := (by rw [(cur_flush hkL HF.out).2.1, List.map_append]; rfl); rw [← e] at h; exact h); clear hys hps hV10 hlt10 hb10)
              | (at_builtin; have _tok := HPg; go_must (refine wpList_append_any _ rfl (.tmp 175) (.tmp 177) 37 37 rfl (wl.heap.size + 2) 23 i0 (.slice none 0 0) 1 24 Tryf.underlying37 hi hz0 hz1 hz2 rfl u20 _ xs (by rfl) (by exact World.ownsRow.alloc HXs.out _) _ 1 [.slice (some ⟨bb, 0, none⟩) bn bq] (by rfl) (by exact Src.one w8 Tryf.underlying37 _ _ _ 23) (by rw [List.length_map]; unfold maxLen; omega) (by rw [List.length_map]; omega) (by have := HS8.out.size; simp; omega) ?_); intro g9 w9 hown hext _ _; have HS9 := Hid.mk'' (HPg.out _ g9 w9 hown hext); have HV9 := Hid.mk'' (HV8.out.ext hext.of_alloc (fun b o' e q => by cases e; exact HMb.out (.inr (.inr (.inl q))))); clear hown hext)
              | (go_at_call 19; refine (annadd_any HPE.out p4 p6 HZl.out r HOK.out k hkL HEl.out w6.heap.size _ v nv l HS7.out.below HS7.out.size HS7.out.hP HS7.out.hA HS7.out.hv HS7.out.hn HS7.out.d1 HRC7.out HR7a.out HR7b.out HR7c.out).mono ?_; intro e w8 hAd; obtain ⟨v8, nv8, bb, bn, bq, he, hS8, hV8, hn8, hB8, hl8, hM8⟩ := hAd.flush hkL HF.out HS7.out; subst he; have HS8 := Hid.mk'' hS8; have HV8 := Hid.mk'' hV8; have HBn := Hid.mk'' hn8; have HMb := Hid.mk'' hM8; have HBnl : Hid (bn ≤ 10000000) := (by rw [Hid, ← hn8]; have h1 := upd_len (flagOf 14) (14 : Nat) (fxOf n o) (cur ((fxOf n o).length + (avOf la pa a4 cs (some q)).length) L k) (avOf la pa a4 cs (some q)); have h2 := HCl.out; omega); obtain ⟨xs, hxs, hpg⟩ := HS8.out.pushg; have HXs := Hid.mk'' hxs; have HPg : Hid (∀ (ob : Obj) (g' : Value) (W' : World), W'.ownsRow (wl.heap.size + 2) 23 1 g' (((gr ((fxOf n o).length + (avOf la pa a4 cs (some q)).length) L k).map (fun g => upd (flagOf 14) (14 : Nat) (fxOf n o) g (avOf la pa a4 cs (some q)))).length + 1) (xs ++ [.slice (some ⟨bb, 0, none⟩) bn bq]) → Ext (w8.alloc ob) W' u20 g' → LS wl (.int .u8 14) (.slice fa (fxOf n o).length cf) (.slice aa (avOf la pa a4 cs (some q)).length ca2) W' v8 nv8 g' u21 (cur ((fxOf n o).length + (avOf la pa a4 cs (some q)).length) L (k + 1)) (el L k) ((gr ((fxOf n o).length + (avOf la pa a4 cs (some q)).length) L (k + 1)).map (fun g => upd (flagOf 14) (14 : Nat) (fxOf n o) g (avOf la pa a4 cs (some q)))) ((gr ((fxOf n o).length + (avOf la pa a4 cs (some q)).length) L k).map (fun g => upd (flagOf 14) (14 : Nat) (fxOf n o) g (avOf la pa a4 cs (some q))))) := (fun ob g' W' h1 h2 => by rw [(cur_flush hkL HF.out).2.1, List.map_append]; exact hpg ob g' W' _ bb bn bq h1 h2 hV8 hn8 hB8 hl8 hM8); clear hAd hS8 hV8 hn8 hB8 hl8 hM8 hxs hpg)
              | (go_at_call 18; refine (route_any r p4 p6 _ (HIn.out _ HBr3.out).zs).mono ?_; rintro e w6 ⟨rfl, hb6⟩; have HS6 := Hid.mk'' (HS.out.later hb6); have hst := store39 w6 r p4 p6; have HS7 := Hid.mk'' (HS6.out.later ((Below.refl w6.heap.size w6).alloc (Nat.le_refl _) (.cells (r.outs p4 p6) 88))); have HRC7 : Hid (RC (w6.alloc (.cells (r.outs p4 p6) 88)) w6.heap.size 0 (r.outs p4 p6)) := ⟨(Blk.new w6 88 _).lt, fun k' _ => by rw [Nat.zero_add]; exact (Blk.new w6 88 _).cell k'⟩; have HR7a : Hid (wl.heap.size + 2 ≤ w6.heap.size) := HS6.out.size; have HR7b : Hid (v.ownBlock ≠ some w6.heap.size) := (fun e => HS6.out.fresh (Nat.le_refl _) (.inl e)); have HR7c : Hid (nv.ownBlock ≠ some w6.heap.size) := (fun e => HS6.out.fresh (Nat.le_refl _) (.inr (.inl e))); clear hb6)
              | (refine wpList_load_mid rfl 53 (.tmp 163) rfl _ _ rfl r.ins.toList _ HRow.out.range Tryf.underlying53 rfl info53 ?_; simp only [Array.toArray_toList])
              | fail)
            go_roundw
            case rel => exact ⟨k + 1, _, _, _, by omega, by go_num, HS11⟩
            case measure => simp [intOf]; omega
          · have HF := Hid.mk'' hf
            clear hf
            go_wp2_with (first
              | (go_at_call 19; refine (annadd_any HPE.out p4 p6 HZl.out r HOK.out k hkL HEl.out w6.heap.size _ v nv l HS7.out.below HS7.out.size HS7.out.hP HS7.out.hA HS7.out.hv HS7.out.hn HS7.out.d1 HRC7.out HR7a.out HR7b.out HR7c.out).mono ?_; intro e w8 hAd; obtain ⟨v8, nv8, he, hS8⟩ := hAd.stay hkL HF.out HS7.out; subst he; have HS8 : Hid (LS wl (.int .u8 14) (.slice fa (fxOf n o).length cf) (.slice aa (avOf la pa a4 cs (some q)).length ca2) w8 v8 nv8 u20 u21 (cur ((fxOf n o).length + (avOf la pa a4 cs (some q)).length) L (k + 1)) (el L k) ((gr ((fxOf n o).length + (avOf la pa a4 cs (some q)).length) L (k + 1)).map (fun g => upd (flagOf 14) (14 : Nat) (fxOf n o) g (avOf la pa a4 cs (some q)))) ((gr ((fxOf n o).length + (avOf la pa a4 cs (some q)).length) L (k + 1)).map (fun g => upd (flagOf 14) (14 : Nat) (fxOf n o) g (avOf la pa a4 cs (some q))))) := (by rw [Hid, (cur_stay hkL HF.out).2.1]; exact hS8); clear hAd hS8)
              | (go_at_call 18; refine (route_any r p4 p6 _ (HIn.out _ HBr3.out).zs).mono ?_; rintro e w6 ⟨rfl, hb6⟩; have HS6 := Hid.mk'' (HS.out.later hb6); have hst := store39 w6 r p4 p6; have HS7 := Hid.mk'' (HS6.out.later ((Below.refl w6.heap.size w6).alloc (Nat.le_refl _) (.cells (r.outs p4 p6) 88))); have HRC7 : Hid (RC (w6.alloc (.cells (r.outs p4 p6) 88)) w6.heap.size 0 (r.outs p4 p6)) := ⟨(Blk.new w6 88 _).lt, fun k' _ => by rw [Nat.zero_add]; exact (Blk.new w6 88 _).cell k'⟩; have HR7a : Hid (wl.heap.size + 2 ≤ w6.heap.size) := HS6.out.size; have HR7b : Hid (v.ownBlock ≠ some w6.heap.size) := (fun e => HS6.out.fresh (Nat.le_refl _) (.inl e)); have HR7c : Hid (nv.ownBlock ≠ some w6.heap.size) := (fun e => HS6.out.fresh (Nat.le_refl _) (.inr (.inl e))); clear hb6)
              | (refine wpList_load_mid rfl 53 (.tmp 163) rfl _ _ rfl r.ins.toList _ HRow.out.range Tryf.underlying53 rfl info53 ?_; simp only [Array.toArray_toList])
              | fail)
            go_roundw
            case rel => exact ⟨k + 1, _, _, _, by omega, by go_num, HS8⟩
            case measure => simp [intOf]; omega
        · obtain rfl : N = k := by omega
          by_cases h0 : N = 0
          · have HO0 : Hid (OB 5 (wl.heap.size + 2) wr v []) := by have h := HS.out.hv; rw [h0, cur_zero] at h; exact h
            have HG12 : Hid (LG wl wr u20 u21 (msOf n la pa a4 o cs (some q) L) (msOf n la pa a4 o cs (some q) L)) := by
              have h := LG.of HS.out (Kept.refl _ _)
              have e : (msOf n la pa a4 o cs (some q) L) = (gr ((fxOf n o).length + (avOf la pa a4 cs (some q)).length) L N).map (fun g => upd (flagOf 14) (14 : Nat) (fxOf n o) g (avOf la pa a4 cs (some q))) := by
                unfold msOf groups
                rw [HLN.out, if_pos (by rw [h0]; exact cur_zero _ _)]
              rw [e]; exact h
            clear h0
            go_upto_region 44 with (first
              | (go_at_call 20; refine (annflush_none wl.heap.size (wl.heap.size + 1) (wl.heap.size + 2) _ _ _ v nv _ HS.out.hP HS.out.hA HO0.out).mono ?_; rintro e wf ⟨rfl, hwf⟩; subst wf)
              | fail)
            obtain ⟨w12, hw12⟩ : ∃ w12, w12 = wr := ⟨_, rfl⟩
            subst wr
            have HWA : Hid (Below wA.heap.size wA w12) := HAwl.out.trans (HG12.out.below.mono HAwl.out.size)
            have HAbW := Hid.mk'' (blk_on HWA.out HAb.out)
            have HBW := Hid.mk'' (HBwl.out.trans (HG12.out.below.mono HBwl.out.size))
            obtain ⟨q0, q1, q2, q3, q4, q5, q6, q7, q8⟩ : w12.cell? ⟨ab, 0, none⟩ = some (.int .u64 (aHi n o : Nat)) ∧ w12.cell? ⟨ab, 1, none⟩ = some (.int .u64 (aLo n o : Nat)) ∧ w12.cell? ⟨ab, 2, none⟩ = some (.pointer (aZ p4 p6 n)) ∧ w12.cell? ⟨ab, 3, none⟩ = some (.slice none 0 0) ∧ w12.cell? ⟨ab, 4, none⟩ = some (.pointer (some ⟨tb, 0, none⟩)) ∧ w12.cell? ⟨ab, 5, none⟩ = some (.int .u8 0) ∧ w12.cell? ⟨ab, 6, none⟩ = some (.slice none 0 0) ∧ w12.cell? ⟨ab, 7, none⟩ = some (.int .u32 0) ∧ w12.cell? ⟨ab, 8, none⟩ = some (.int .u32 0) := ⟨HAbW.out.cell 0, HAbW.out.cell 1, HAbW.out.cell 2, HAbW.out.cell 3, HAbW.out.cell 4, HAbW.out.cell 5, HAbW.out.cell 6, HAbW.out.cell 7, HAbW.out.cell 8⟩
            go_upto_region 45 with fail
            obtain ⟨wU, hwU⟩ : ∃ wU, wU = w12.alloc (.cells #[.int .u64 (aHi n o : Nat), .int .u64 (aLo n o : Nat), .pointer (aZ p4 p6 n), .slice none 0 0, .pointer (some ⟨tb, 0, none⟩), .int .u8 0, .slice none 0 0, .int .u32 0, .int .u32 0, .slice none 0 0] 95) := ⟨_, rfl⟩
            obtain ⟨ub, hub⟩ : ∃ ub, ub = w12.heap.size := ⟨_, rfl⟩
            have HU0 : Hid (Blk wU ub 95 #[.int .u64 (aHi n o : Nat), .int .u64 (aLo n o : Nat), .pointer (aZ p4 p6 n), .slice none 0 0, .pointer (some ⟨tb, 0, none⟩), .int .u8 0, .slice none 0 0, .int .u32 0, .int .u32 0, .slice none 0 0]) := by subst hwU hub; exact Blk.new _ _ _
            have HWU : Hid (Below w12.heap.size w12 wU) := by subst hwU; exact (Below.refl _ _).alloc (Nat.le_refl _) _
            have HUs : Hid (w12.heap.size = ub) := hub.symm
            rw [← hwU, ← hub]
            clear hwU hub q0 q1 q2 q3 q4 q5 q6 q7 q8
            obtain ⟨i8, h8i, h8z0, h8z1, h8z2⟩ := info_parts info98
            go_wp2_with fail
            go_loopw [28] (fun i wr => ∃ (k : Nat) (nr : Value), k ≤ N ∧ i = .int .i64 k ∧ Hid (Blk wr ub 95 #[.int .u64 (aHi n o : Nat), .int .u64 (aLo n o : Nat), .pointer (aZ p4 p6 n), .slice none 0 0, .pointer (some ⟨tb, 0, none⟩), .int .u8 0, .slice none 0 0, .int .u32 0, .int .u32 0, nr]) ∧ Hid (wr.ownsRow (ub + 1) 98 42 nr k (nlFlat (rs.take k) p4 p6)) ∧ Hid (Below w12.heap.size w12 wr) ∧ Hid (ub < wr.heap.size)) (fun i _ => N - (intOf i).toNat)
            case atStart => exact ⟨0, _, Nat.zero_le _, rfl, HU0, World.ownsRow_nil _ _ _ _, HWU, HU0.out.lt⟩
            case round =>
              obtain ⟨k, nr, hk, rfl, HU, HO, HBu, HUl⟩ := hrel
              by_cases hlt : k < N
              · obtain ⟨r, hr⟩ : ∃ r, rs[k]? = some r := ⟨_, List.getElem?_eq_getElem (by have := HN.out; omega)⟩
                have HR := Hid.mk'' hr
                obtain ⟨rb, ro, hra, hrow⟩ : ∃ rb ro, ra = some ⟨rb, ro, none⟩ ∧ RC w12 rb (ro + k * 46) r.ins := by
                  rcases (HIn.out w12 HBW.out).rv with h | ⟨rb, ro, e, h⟩
                  · rw [h] at hr; cases hr
                  · exact ⟨rb, ro, e, h k r hr⟩
                subst hra
                have HRow : Hid (∀ Y, Below w12.heap.size w12 Y → RC Y rb (ro + k * 46) r.ins) := fun Y hb => hrow.on hb.size (hb.block _ hrow.1)
                have HZW : Hid (∀ Y, Below w12.heap.size w12 Y → Zs Y p4 p6) := fun Y hb => (HIn.out w12 HBW.out).zs.later hb
                have i1 : (0 : Int) ≤ (k : Int) := by omega
                have i2 : (k : Int) < (N : Int) := by omega
                clear hrow hr
                go_upto_region 48 with fail
                refine wp_region_held_drew (S := fun Y => Hid (Below w12.heap.size w12 Y)) (by kernel_rfl) (below_drew HBu.out) (fun hHeld => ?_)
                refine wpAnyH_take (i := 0) (oi := { dst := some 205, op := .fieldAddr 95 (.tmp 27) 1, type := 0, pos := _, after := #[], guard := none }) (v := .pointer (some ⟨ub, 9, none⟩)) rfl (by kernel_rfl) (by kernel_rfl) (by kernel_rfl) (fun _ _ _ h => h) (Or.inl ⟨by rfl, fun Y hSW => by go_simp⟩) (by assumption) ?_
                try simp only [Act.put, List.setIfInBounds_toArray, List.set_cons_zero, List.set_cons_succ]
                refine wpAnyH_take (i := 2) (oi := { dst := some 207, op := .move (.tmp 5), type := 45, pos := _, after := #[], guard := none }) (v := .slice (some ⟨rb, ro, none⟩) N rc) rfl (by kernel_rfl) (by kernel_rfl) (by kernel_rfl) (fun _ _ _ h => h) (Or.inl ⟨by rfl, fun Y hSW => by go_simp⟩) (by assumption) ?_
                try simp only [Act.put, List.setIfInBounds_toArray, List.set_cons_zero, List.set_cons_succ]
                refine wpAnyH_take (i := 3) (oi := { dst := some 208, op := .move (.tmp 28), type := 3, pos := _, after := #[], guard := none }) (v := .int .i64 (k : Int)) rfl (by kernel_rfl) (by kernel_rfl) (by kernel_rfl) (fun _ _ _ h => h) (Or.inl ⟨by rfl, fun Y hSW => by go_simp⟩) (by assumption) ?_
                try simp only [Act.put, List.setIfInBounds_toArray, List.set_cons_zero, List.set_cons_succ]
                refine wpAnyH_take (i := 4) (oi := { dst := some 209, op := .indexAddr 45 (.tmp 207) (.tmp 208), type := 0, pos := _, after := #[{ on := 2, ground := .data }, { on := 3, ground := .data }], guard := none }) (v := .pointer (some ⟨rb, ro + k * 46, none⟩)) rfl (by kernel_rfl) (by kernel_rfl) (by kernel_rfl) (fun _ _ _ h => h) (Or.inl ⟨by rfl, fun Y hSW => by go_simp⟩) (by assumption) ?_
                try simp only [Act.put, List.setIfInBounds_toArray, List.set_cons_zero, List.set_cons_succ]
                refine wpAnyH_take (i := 5) (oi := { dst := some 210, op := .load 53 (.tmp 209), type := 53, pos := _, after := #[{ on := 4, ground := .data }], guard := none }) (v := .agg r.ins) rfl (by kernel_rfl) (by kernel_rfl) (by kernel_rfl) (fun _ _ _ h => h) (yieldsIf_load_mid (by rfl) _ _ rfl _ _ rfl r.ins.toList _ (fun Y h => (HRow.out Y h.out).range) Tryf.underlying53 rfl info53) (by assumption) ?_
                try simp only [Act.put, List.setIfInBounds_toArray, List.set_cons_zero, List.set_cons_succ]
                have HUc : Hid (Blk wr.drew ub 95 #[.int .u64 (aHi n o : Nat), .int .u64 (aLo n o : Nat), .pointer (aZ p4 p6 n), .slice none 0 0, .pointer (some ⟨tb, 0, none⟩), .int .u8 0, .slice none 0 0, .int .u32 0, .int .u32 0, nr]) := HU.out
                have HOc : Hid (wr.drew.ownsRow (ub + 1) 98 42 nr k (nlFlat (rs.take k) p4 p6)) := HO.out
                have HLc : Hid (ub < wr.drew.heap.size) := HUl.out
                refine wpAnyH_ready (rs := [1, 6]) (by kernel_rfl) (by simp) ?_
                refine AllReadyH.cons (o := { dst := some 206, op := .load 93 (.tmp 205), type := 93, pos := _, after := #[{ on := 0, ground := .data }], guard := none }) rfl (fun K hK => ?_) (AllReadyH.cons (o := { dst := some 211, op := .call { callee := .value (.func 18), args := #[.tmp 210], argTypes := #[53] }, type := 88, pos := _, after := #[{ on := 5, ground := .data }], guard := none }) rfl (fun K hK => ?_) AllReadyH.nil)
                · have c9 : wr.drew.cell? ⟨ub, 9, none⟩ = some nr := HUc.out.cell 9
                  go_simp
                  clear c9
                  refine hK.out _ _ hHeld (fun hHeld => ?_)
                  clear hK K
                  try simp only [Act.put, List.setIfInBounds_toArray, List.set_cons_zero, List.set_cons_succ]
                  refine wpAnyH_ready (rs := [6]) (by kernel_rfl) (by simp) ?_
                  refine AllReadyH.cons (o := { dst := some 211, op := .call { callee := .value (.func 18), args := #[.tmp 210], argTypes := #[53] }, type := 88, pos := _, after := #[{ on := 5, ground := .data }], guard := none }) rfl (fun K hK => ?_) AllReadyH.nil
                  go_simp
                  go_at_call 18
                  refine (route_any r p4 p6 _ (HZW.out _ hHeld.out)).mono ?_
                  rintro e w21 ⟨rfl, hb21⟩
                  have HB21 : Hid (Below w12.heap.size w12 w21) := hHeld.out.trans (hb21.mono hHeld.out.size)
                  have HUn := Hid.mk'' (blk_on hb21 HUc.out)
                  have HOn := Hid.mk'' (ownsRow_keptX HOc.out (Kept.ofAll hb21 (fun _ => False)) (fun _ _ q => q))
                  have HLn := Hid.mk'' (Nat.lt_of_lt_of_le HLc.out hb21.size)
                  clear HUc HOc HLc
                  have HUc := HUn
                  have HOc := HOn
                  have HLc := HLn
                  clear HUn HOn HLn hb21 hHeld
                  go_wp2_with fail
                  refine hK.out _ _ HB21 (fun hHeld => ?_)
                  clear hK K
                  try simp only [Act.put, List.setIfInBounds_toArray, List.set_cons_zero, List.set_cons_succ]
                  refine wpAnyH_take (i := 7) (oi := { dst := some 212, op := .build 98 #[(0, .tmp 211)], type := 98, pos := _, after := #[{ on := 6, ground := .data }], guard := none }) (v := .agg (r.nls p4 p6)) rfl (by kernel_rfl) (by kernel_rfl) (by kernel_rfl) (fun _ _ _ h => h) (Or.inl ⟨by rfl, fun Y hSW => by unfold RI.outs RI.nls; go_simp⟩) (by assumption) ?_
                  try simp only [Act.put, List.setIfInBounds_toArray, List.set_cons_zero, List.set_cons_succ]
                  refine wpAnyH_ready (rs := [8]) (by kernel_rfl) (by simp) ?_
                  refine AllReadyH.cons (o := { dst := some 213, op := .buildSlice 93 1 #[(0, .tmp 212)], type := 93, pos := _, after := #[{ on := 7, ground := .data }], guard := none }) rfl (fun K hK => ?_) AllReadyH.nil
                  unfold RI.nls
                  go_simp
                  have hnls : r.nls p4 p6 = #[.int .u8 r.ty, .int .u8 (r.rd 0).toNat, .int .u8 (r.rd 1).toNat, .int .u8 (r.rd 2).toNat, .int .u8 (r.rd 3).toNat, .int .u8 (r.rd 4).toNat, .int .u8 (r.rd 5).toNat, .int .u8 (r.rd 6).toNat, .int .u8 (r.rd 7).toNat, .int .u8 (r.es 0).toNat, .int .u8 (r.es 1).toNat, .int .u8 (r.es 2).toNat, .int .u8 (r.es 3).toNat, .int .u8 (r.es 4).toNat, .int .u8 (r.es 5).toNat, .int .u8 (r.es 6).toNat, .int .u8 (r.es 7).toNat, .int .u8 (r.es 8).toNat, .int .u8 (r.es 9).toNat, .int .u32 r.tag, .int .u8 (r.mac 0).toNat, .int .u8 (r.mac 1).toNat, .int .u8 (r.mac 2).toNat, .int .u8 (r.mac 3).toNat, .int .u8 (r.mac 4).toNat, .int .u8 (r.mac 5).toNat, .int .u64 (aHi r.n r.ip : Nat), .int .u64 (aLo r.n r.ip : Nat), .pointer (aZ p4 p6 r.n), .int .u64 0, .int .u64 0, .pointer none, .int .u8 0, .int .u64 0, .int .u64 0, .pointer none, .int .u32 r.l1, .int .u32 r.l2, .bool r.h2, .bool false, .int .u8 0, .int .i64 0] := rfl
                  rw [← hnls]
                  obtain ⟨w22, hw22⟩ : ∃ w22, w22 = w21.alloc (.cells (r.nls p4 p6) 98) := ⟨_, rfl⟩
                  rw [← hw22]
                  have hb22 : Below w21.heap.size w21 w22 := by subst hw22; exact (Below.refl _ _).alloc (Nat.le_refl _) _
                  have HSrc : Hid (Src Tryf.prog 42 93 (.slice (some ⟨w21.heap.size, 0, none⟩) 1 1) 1 (r.nls p4 p6).toList w22) := by rw [hw22]; exact Src.nl _ r p4 p6
                  have HB22 : Hid (Below w12.heap.size w12 w22) := hHeld.out.trans (hb22.mono hHeld.out.size)
                  have HUn := Hid.mk'' (blk_on hb22 HUc.out)
                  have HOn := Hid.mk'' (ownsRow_keptX HOc.out (Kept.ofAll hb22 (fun _ => False)) (fun _ _ q => q))
                  have HLn := Hid.mk'' (Nat.lt_of_lt_of_le HLc.out hb22.size)
                  clear HUc HOc HLc
                  have HUc := HUn
                  have HOc := HOn
                  have HLc := HLn
                  clear HUn HOn HLn hb22 hHeld hw22 hnls
                  refine hK.out _ _ HB22 (fun hHeld => ?_)
                  clear hK K
                  try simp only [Act.put, List.setIfInBounds_toArray, List.set_cons_zero, List.set_cons_succ]
                  refine wpAnyH_ready (rs := [9]) (by kernel_rfl) (by simp) ?_
                  refine AllReadyH.cons (o := { dst := some 214, op := .call { callee := .builtin .append, args := #[.tmp 206, .tmp 213], argTypes := #[93, 93] }, type := 93, pos := _, after := #[{ on := 1, ground := .data }, { on := 8, ground := .data }, { on := 6, ground := .chain }], guard := none }) rfl (fun K hK => ?_) AllReadyH.nil
                  refine wp_append_any _ (.tmp 206) (.tmp 213) 93 93 rfl (ub + 1) 98 i8 _ 42 144 Tryf.underlying93 h8i h8z0 h8z1 h8z2 rfl nr k (nlFlat (rs.take k) p4 p6) (by rfl) (by exact HOc.out) _ 1 (r.nls p4 p6).toList (by rfl) (by exact HSrc.out) (by unfold maxLen; omega) (by omega) (by have := HLc.out; omega) ?_
                  intro nr2 w23 hown hext _ _
                  have HO2 : Hid (w23.ownsRow (ub + 1) 98 42 nr2 (k + 1) (nlFlat (rs.take (k + 1)) p4 p6)) := by rw [Hid, nlFlat_take HR.out]; exact hown
                  have HU23 := Hid.mk'' (HUc.out.kept (Kept.ofExt hext) (fun e => by have := (World.ownsRow.lt HOc.out _ e).1; omega))
                  have HB23 : Hid (Below w12.heap.size w12 w23) := hext.below hHeld.out hHeld.out.size (fun g e => by have h1 := (World.ownsRow.lt HOc.out _ e).1; have h2 := HUs.out; omega)
                  have HL23 := Hid.mk'' (Nat.lt_of_lt_of_le HLc.out hext.size)
                  clear hown hext hHeld HUc HOc HLc
                  refine hK.out _ _ HB23 (fun hHeld => ?_)
                  clear hK K
                  try simp only [Act.put, List.setIfInBounds_toArray, List.set_cons_zero, List.set_cons_succ]
                  refine wpAnyH_take (i := 10) (oi := { dst := some 215, op := .fieldAddr 95 (.tmp 27) 1, type := 0, pos := _, after := #[{ on := 0, ground := .phase }, { on := 1, ground := .phase }, { on := 2, ground := .phase }, { on := 3, ground := .phase }, { on := 4, ground := .phase }, { on := 5, ground := .phase }, { on := 6, ground := .phase }, { on := 7, ground := .phase }, { on := 8, ground := .phase }, { on := 9, ground := .phase }], guard := none }) (v := .pointer (some ⟨ub, 9, none⟩)) rfl (by kernel_rfl) (by kernel_rfl) (by kernel_rfl) (fun _ _ _ h => h) (Or.inl ⟨by rfl, fun Y hSW => by go_simp⟩) (by assumption) ?_
                  try simp only [Act.put, List.setIfInBounds_toArray, List.set_cons_zero, List.set_cons_succ]
                  refine wpAnyH_ready (rs := [11]) (by kernel_rfl) (by simp) ?_
                  refine AllReadyH.cons (o := { dst := none, op := .store 93 (.tmp 215) (.tmp 214), type := 0, pos := _, after := #[{ on := 10, ground := .data }, { on := 9, ground := .data }, { on := 9, ground := .chain }, { on := 0, ground := .phase }, { on := 1, ground := .phase }, { on := 2, ground := .phase }, { on := 3, ground := .phase }, { on := 4, ground := .phase }, { on := 5, ground := .phase }, { on := 6, ground := .phase }, { on := 7, ground := .phase }, { on := 8, ground := .phase }, { on := 9, ground := .phase }], guard := none }) rfl (fun K hK => ?_) AllReadyH.nil
                  have c9 : w23.cell? ⟨ub, 9, none⟩ = some nr := HU23.out.cell 9
                  have f9 := HU23.out.frozen 9
                  obtain ⟨na2, nc2, hnr2⟩ : ∃ na nc, nr2 = Value.slice na (k + 1) nc := by
                    rcases HO2.out.2 with h | ⟨g, cap, cur, h, _⟩
                    · have := h.2; simp at this
                    · exact ⟨_, _, h⟩
                  subst hnr2
                  have HU24 : Hid (Blk (w23.setCell ⟨ub, 9, none⟩ (.slice na2 (k + 1) nc2)) ub 95 #[.int .u64 (aHi n o : Nat), .int .u64 (aLo n o : Nat), .pointer (aZ p4 p6 n), .slice none 0 0, .pointer (some ⟨tb, 0, none⟩), .int .u8 0, .slice none 0 0, .int .u32 0, .int .u32 0, .slice na2 (k + 1) nc2]) := HU23.out.set 9 _
                  have HK24 := Hid.mk'' ((Kept.refl w23 (fun i => i = ub)).set (k := 9) (.inl rfl) (.slice na2 (k + 1) nc2))
                  have HO24 := Hid.mk'' (ownsRow_keptX HO2.out HK24.out (fun g e q => by have h1 := (World.ownsRow.lt HO2.out _ e).1; have : g = ub := q; omega))
                  have HB24 : Hid (Below w12.heap.size w12 (w23.setCell ⟨ub, 9, none⟩ (.slice na2 (k + 1) nc2))) := HB23.out.trans (HK24.out.below HB23.out.size (fun i q => by have h2 := HUs.out; have : i = ub := q; omega))
                  have HL24 := Hid.mk'' (Nat.lt_of_lt_of_le HL23.out HK24.out.size)
                  go_simp
                  refine hK.out _ _ HB24 (fun hHeld => ?_)
                  clear hK K c9 f9
                  refine wpAnyH_done (by kernel_rfl) ?_ _
                  go_wp2_with fail
                  go_roundw
                  case rel => exact ⟨k + 1, _, by omega, by go_num, HU24, HO24, HB24, HL24⟩
                  case measure => simp [intOf]; omega
                · go_simp
                  go_at_call 18
                  refine (route_any r p4 p6 _ (HZW.out _ hHeld.out)).mono ?_
                  rintro e w21 ⟨rfl, hb21⟩
                  have HB21 : Hid (Below w12.heap.size w12 w21) := hHeld.out.trans (hb21.mono hHeld.out.size)
                  have HUn := Hid.mk'' (blk_on hb21 HUc.out)
                  have HOn := Hid.mk'' (ownsRow_keptX HOc.out (Kept.ofAll hb21 (fun _ => False)) (fun _ _ q => q))
                  have HLn := Hid.mk'' (Nat.lt_of_lt_of_le HLc.out hb21.size)
                  clear HUc HOc HLc
                  have HUc := HUn
                  have HOc := HOn
                  have HLc := HLn
                  clear HUn HOn HLn hb21 hHeld
                  go_wp2_with fail
                  refine hK.out _ _ HB21 (fun hHeld => ?_)
                  clear hK K
                  try simp only [Act.put, List.setIfInBounds_toArray, List.set_cons_zero, List.set_cons_succ]
                  refine wpAnyH_take (i := 7) (oi := { dst := some 212, op := .build 98 #[(0, .tmp 211)], type := 98, pos := _, after := #[{ on := 6, ground := .data }], guard := none }) (v := .agg (r.nls p4 p6)) rfl (by kernel_rfl) (by kernel_rfl) (by kernel_rfl) (fun _ _ _ h => h) (Or.inl ⟨by rfl, fun Y hSW => by unfold RI.outs RI.nls; go_simp⟩) (by assumption) ?_
                  try simp only [Act.put, List.setIfInBounds_toArray, List.set_cons_zero, List.set_cons_succ]
                  refine wpAnyH_ready (rs := [1, 8]) (by kernel_rfl) (by simp) ?_
                  refine AllReadyH.cons (o := { dst := some 206, op := .load 93 (.tmp 205), type := 93, pos := _, after := #[{ on := 0, ground := .data }], guard := none }) rfl (fun K hK => ?_) (AllReadyH.cons (o := { dst := some 213, op := .buildSlice 93 1 #[(0, .tmp 212)], type := 93, pos := _, after := #[{ on := 7, ground := .data }], guard := none }) rfl (fun K hK => ?_) AllReadyH.nil)
                  · have c9 : w21.cell? ⟨ub, 9, none⟩ = some nr := HUc.out.cell 9
                    go_simp
                    clear c9
                    refine hK.out _ _ hHeld (fun hHeld => ?_)
                    clear hK K
                    try simp only [Act.put, List.setIfInBounds_toArray, List.set_cons_zero, List.set_cons_succ]
                    refine wpAnyH_ready (rs := [8]) (by kernel_rfl) (by simp) ?_
                    refine AllReadyH.cons (o := { dst := some 213, op := .buildSlice 93 1 #[(0, .tmp 212)], type := 93, pos := _, after := #[{ on := 7, ground := .data }], guard := none }) rfl (fun K hK => ?_) AllReadyH.nil
                    unfold RI.nls
                    go_simp
                    have hnls : r.nls p4 p6 = #[.int .u8 r.ty, .int .u8 (r.rd 0).toNat, .int .u8 (r.rd 1).toNat, .int .u8 (r.rd 2).toNat, .int .u8 (r.rd 3).toNat, .int .u8 (r.rd 4).toNat, .int .u8 (r.rd 5).toNat, .int .u8 (r.rd 6).toNat, .int .u8 (r.rd 7).toNat, .int .u8 (r.es 0).toNat, .int .u8 (r.es 1).toNat, .int .u8 (r.es 2).toNat, .int .u8 (r.es 3).toNat, .int .u8 (r.es 4).toNat, .int .u8 (r.es 5).toNat, .int .u8 (r.es 6).toNat, .int .u8 (r.es 7).toNat, .int .u8 (r.es 8).toNat, .int .u8 (r.es 9).toNat, .int .u32 r.tag, .int .u8 (r.mac 0).toNat, .int .u8 (r.mac 1).toNat, .int .u8 (r.mac 2).toNat, .int .u8 (r.mac 3).toNat, .int .u8 (r.mac 4).toNat, .int .u8 (r.mac 5).toNat, .int .u64 (aHi r.n r.ip : Nat), .int .u64 (aLo r.n r.ip : Nat), .pointer (aZ p4 p6 r.n), .int .u64 0, .int .u64 0, .pointer none, .int .u8 0, .int .u64 0, .int .u64 0, .pointer none, .int .u32 r.l1, .int .u32 r.l2, .bool r.h2, .bool false, .int .u8 0, .int .i64 0] := rfl
                    rw [← hnls]
                    obtain ⟨w22, hw22⟩ : ∃ w22, w22 = w21.alloc (.cells (r.nls p4 p6) 98) := ⟨_, rfl⟩
                    rw [← hw22]
                    have hb22 : Below w21.heap.size w21 w22 := by subst hw22; exact (Below.refl _ _).alloc (Nat.le_refl _) _
                    have HSrc : Hid (Src Tryf.prog 42 93 (.slice (some ⟨w21.heap.size, 0, none⟩) 1 1) 1 (r.nls p4 p6).toList w22) := by rw [hw22]; exact Src.nl _ r p4 p6
                    have HB22 : Hid (Below w12.heap.size w12 w22) := hHeld.out.trans (hb22.mono hHeld.out.size)
                    have HUn := Hid.mk'' (blk_on hb22 HUc.out)
                    have HOn := Hid.mk'' (ownsRow_keptX HOc.out (Kept.ofAll hb22 (fun _ => False)) (fun _ _ q => q))
                    have HLn := Hid.mk'' (Nat.lt_of_lt_of_le HLc.out hb22.size)
                    clear HUc HOc HLc
                    have HUc := HUn
                    have HOc := HOn
                    have HLc := HLn
                    clear HUn HOn HLn hb22 hHeld hw22 hnls
                    refine hK.out _ _ HB22 (fun hHeld => ?_)
                    clear hK K
                    try simp only [Act.put, List.setIfInBounds_toArray, List.set_cons_zero, List.set_cons_succ]
                    refine wpAnyH_ready (rs := [9]) (by kernel_rfl) (by simp) ?_
                    refine AllReadyH.cons (o := { dst := some 214, op := .call { callee := .builtin .append, args := #[.tmp 206, .tmp 213], argTypes := #[93, 93] }, type := 93, pos := _, after := #[{ on := 1, ground := .data }, { on := 8, ground := .data }, { on := 6, ground := .chain }], guard := none }) rfl (fun K hK => ?_) AllReadyH.nil
                    refine wp_append_any _ (.tmp 206) (.tmp 213) 93 93 rfl (ub + 1) 98 i8 _ 42 144 Tryf.underlying93 h8i h8z0 h8z1 h8z2 rfl nr k (nlFlat (rs.take k) p4 p6) (by rfl) (by exact HOc.out) _ 1 (r.nls p4 p6).toList (by rfl) (by exact HSrc.out) (by unfold maxLen; omega) (by omega) (by have := HLc.out; omega) ?_
                    intro nr2 w23 hown hext _ _
                    have HO2 : Hid (w23.ownsRow (ub + 1) 98 42 nr2 (k + 1) (nlFlat (rs.take (k + 1)) p4 p6)) := by rw [Hid, nlFlat_take HR.out]; exact hown
                    have HU23 := Hid.mk'' (HUc.out.kept (Kept.ofExt hext) (fun e => by have := (World.ownsRow.lt HOc.out _ e).1; omega))
                    have HB23 : Hid (Below w12.heap.size w12 w23) := hext.below hHeld.out hHeld.out.size (fun g e => by have h1 := (World.ownsRow.lt HOc.out _ e).1; have h2 := HUs.out; omega)
                    have HL23 := Hid.mk'' (Nat.lt_of_lt_of_le HLc.out hext.size)
                    clear hown hext hHeld HUc HOc HLc
                    refine hK.out _ _ HB23 (fun hHeld => ?_)
                    clear hK K
                    try simp only [Act.put, List.setIfInBounds_toArray, List.set_cons_zero, List.set_cons_succ]
                    refine wpAnyH_take (i := 10) (oi := { dst := some 215, op := .fieldAddr 95 (.tmp 27) 1, type := 0, pos := _, after := #[{ on := 0, ground := .phase }, { on := 1, ground := .phase }, { on := 2, ground := .phase }, { on := 3, ground := .phase }, { on := 4, ground := .phase }, { on := 5, ground := .phase }, { on := 6, ground := .phase }, { on := 7, ground := .phase }, { on := 8, ground := .phase }, { on := 9, ground := .phase }], guard := none }) (v := .pointer (some ⟨ub, 9, none⟩)) rfl (by kernel_rfl) (by kernel_rfl) (by kernel_rfl) (fun _ _ _ h => h) (Or.inl ⟨by rfl, fun Y hSW => by go_simp⟩) (by assumption) ?_
                    try simp only [Act.put, List.setIfInBounds_toArray, List.set_cons_zero, List.set_cons_succ]
                    refine wpAnyH_ready (rs := [11]) (by kernel_rfl) (by simp) ?_
                    refine AllReadyH.cons (o := { dst := none, op := .store 93 (.tmp 215) (.tmp 214), type := 0, pos := _, after := #[{ on := 10, ground := .data }, { on := 9, ground := .data }, { on := 9, ground := .chain }, { on := 0, ground := .phase }, { on := 1, ground := .phase }, { on := 2, ground := .phase }, { on := 3, ground := .phase }, { on := 4, ground := .phase }, { on := 5, ground := .phase }, { on := 6, ground := .phase }, { on := 7, ground := .phase }, { on := 8, ground := .phase }, { on := 9, ground := .phase }], guard := none }) rfl (fun K hK => ?_) AllReadyH.nil
                    have c9 : w23.cell? ⟨ub, 9, none⟩ = some nr := HU23.out.cell 9
                    have f9 := HU23.out.frozen 9
                    obtain ⟨na2, nc2, hnr2⟩ : ∃ na nc, nr2 = Value.slice na (k + 1) nc := by
                      rcases HO2.out.2 with h | ⟨g, cap, cur, h, _⟩
                      · have := h.2; simp at this
                      · exact ⟨_, _, h⟩
                    subst hnr2
                    have HU24 : Hid (Blk (w23.setCell ⟨ub, 9, none⟩ (.slice na2 (k + 1) nc2)) ub 95 #[.int .u64 (aHi n o : Nat), .int .u64 (aLo n o : Nat), .pointer (aZ p4 p6 n), .slice none 0 0, .pointer (some ⟨tb, 0, none⟩), .int .u8 0, .slice none 0 0, .int .u32 0, .int .u32 0, .slice na2 (k + 1) nc2]) := HU23.out.set 9 _
                    have HK24 := Hid.mk'' ((Kept.refl w23 (fun i => i = ub)).set (k := 9) (.inl rfl) (.slice na2 (k + 1) nc2))
                    have HO24 := Hid.mk'' (ownsRow_keptX HO2.out HK24.out (fun g e q => by have h1 := (World.ownsRow.lt HO2.out _ e).1; have : g = ub := q; omega))
                    have HB24 : Hid (Below w12.heap.size w12 (w23.setCell ⟨ub, 9, none⟩ (.slice na2 (k + 1) nc2))) := HB23.out.trans (HK24.out.below HB23.out.size (fun i q => by have h2 := HUs.out; have : i = ub := q; omega))
                    have HL24 := Hid.mk'' (Nat.lt_of_lt_of_le HL23.out HK24.out.size)
                    go_simp
                    refine hK.out _ _ HB24 (fun hHeld => ?_)
                    clear hK K c9 f9
                    refine wpAnyH_done (by kernel_rfl) ?_ _
                    go_wp2_with fail
                    go_roundw
                    case rel => exact ⟨k + 1, _, by omega, by go_num, HU24, HO24, HB24, HL24⟩
                    case measure => simp [intOf]; omega
                  · unfold RI.nls
                    go_simp
                    have hnls : r.nls p4 p6 = #[.int .u8 r.ty, .int .u8 (r.rd 0).toNat, .int .u8 (r.rd 1).toNat, .int .u8 (r.rd 2).toNat, .int .u8 (r.rd 3).toNat, .int .u8 (r.rd 4).toNat, .int .u8 (r.rd 5).toNat, .int .u8 (r.rd 6).toNat, .int .u8 (r.rd 7).toNat, .int .u8 (r.es 0).toNat, .int .u8 (r.es 1).toNat, .int .u8 (r.es 2).toNat, .int .u8 (r.es 3).toNat, .int .u8 (r.es 4).toNat, .int .u8 (r.es 5).toNat, .int .u8 (r.es 6).toNat, .int .u8 (r.es 7).toNat, .int .u8 (r.es 8).toNat, .int .u8 (r.es 9).toNat, .int .u32 r.tag, .int .u8 (r.mac 0).toNat, .int .u8 (r.mac 1).toNat, .int .u8 (r.mac 2).toNat, .int .u8 (r.mac 3).toNat, .int .u8 (r.mac 4).toNat, .int .u8 (r.mac 5).toNat, .int .u64 (aHi r.n r.ip : Nat), .int .u64 (aLo r.n r.ip : Nat), .pointer (aZ p4 p6 r.n), .int .u64 0, .int .u64 0, .pointer none, .int .u8 0, .int .u64 0, .int .u64 0, .pointer none, .int .u32 r.l1, .int .u32 r.l2, .bool r.h2, .bool false, .int .u8 0, .int .i64 0] := rfl
                    rw [← hnls]
                    obtain ⟨w22, hw22⟩ : ∃ w22, w22 = w21.alloc (.cells (r.nls p4 p6) 98) := ⟨_, rfl⟩
                    rw [← hw22]
                    have hb22 : Below w21.heap.size w21 w22 := by subst hw22; exact (Below.refl _ _).alloc (Nat.le_refl _) _
                    have HSrc : Hid (Src Tryf.prog 42 93 (.slice (some ⟨w21.heap.size, 0, none⟩) 1 1) 1 (r.nls p4 p6).toList w22) := by rw [hw22]; exact Src.nl _ r p4 p6
                    have HB22 : Hid (Below w12.heap.size w12 w22) := hHeld.out.trans (hb22.mono hHeld.out.size)
                    have HUn := Hid.mk'' (blk_on hb22 HUc.out)
                    have HOn := Hid.mk'' (ownsRow_keptX HOc.out (Kept.ofAll hb22 (fun _ => False)) (fun _ _ q => q))
                    have HLn := Hid.mk'' (Nat.lt_of_lt_of_le HLc.out hb22.size)
                    clear HUc HOc HLc
                    have HUc := HUn
                    have HOc := HOn
                    have HLc := HLn
                    clear HUn HOn HLn hb22 hHeld hw22 hnls
                    refine hK.out _ _ HB22 (fun hHeld => ?_)
                    clear hK K
                    try simp only [Act.put, List.setIfInBounds_toArray, List.set_cons_zero, List.set_cons_succ]
                    refine wpAnyH_ready (rs := [1]) (by kernel_rfl) (by simp) ?_
                    refine AllReadyH.cons (o := { dst := some 206, op := .load 93 (.tmp 205), type := 93, pos := _, after := #[{ on := 0, ground := .data }], guard := none }) rfl (fun K hK => ?_) AllReadyH.nil
                    have c9 : w22.cell? ⟨ub, 9, none⟩ = some nr := HUc.out.cell 9
                    go_simp
                    clear c9
                    refine hK.out _ _ hHeld (fun hHeld => ?_)
                    clear hK K
                    try simp only [Act.put, List.setIfInBounds_toArray, List.set_cons_zero, List.set_cons_succ]
                    refine wpAnyH_ready (rs := [9]) (by kernel_rfl) (by simp) ?_
                    refine AllReadyH.cons (o := { dst := some 214, op := .call { callee := .builtin .append, args := #[.tmp 206, .tmp 213], argTypes := #[93, 93] }, type := 93, pos := _, after := #[{ on := 1, ground := .data }, { on := 8, ground := .data }, { on := 6, ground := .chain }], guard := none }) rfl (fun K hK => ?_) AllReadyH.nil
                    refine wp_append_any _ (.tmp 206) (.tmp 213) 93 93 rfl (ub + 1) 98 i8 _ 42 144 Tryf.underlying93 h8i h8z0 h8z1 h8z2 rfl nr k (nlFlat (rs.take k) p4 p6) (by rfl) (by exact HOc.out) _ 1 (r.nls p4 p6).toList (by rfl) (by exact HSrc.out) (by unfold maxLen; omega) (by omega) (by have := HLc.out; omega) ?_
                    intro nr2 w23 hown hext _ _
                    have HO2 : Hid (w23.ownsRow (ub + 1) 98 42 nr2 (k + 1) (nlFlat (rs.take (k + 1)) p4 p6)) := by rw [Hid, nlFlat_take HR.out]; exact hown
                    have HU23 := Hid.mk'' (HUc.out.kept (Kept.ofExt hext) (fun e => by have := (World.ownsRow.lt HOc.out _ e).1; omega))
                    have HB23 : Hid (Below w12.heap.size w12 w23) := hext.below hHeld.out hHeld.out.size (fun g e => by have h1 := (World.ownsRow.lt HOc.out _ e).1; have h2 := HUs.out; omega)
                    have HL23 := Hid.mk'' (Nat.lt_of_lt_of_le HLc.out hext.size)
                    clear hown hext hHeld HUc HOc HLc
                    refine hK.out _ _ HB23 (fun hHeld => ?_)
                    clear hK K
                    try simp only [Act.put, List.setIfInBounds_toArray, List.set_cons_zero, List.set_cons_succ]
                    refine wpAnyH_take (i := 10) (oi := { dst := some 215, op := .fieldAddr 95 (.tmp 27) 1, type := 0, pos := _, after := #[{ on := 0, ground := .phase }, { on := 1, ground := .phase }, { on := 2, ground := .phase }, { on := 3, ground := .phase }, { on := 4, ground := .phase }, { on := 5, ground := .phase }, { on := 6, ground := .phase }, { on := 7, ground := .phase }, { on := 8, ground := .phase }, { on := 9, ground := .phase }], guard := none }) (v := .pointer (some ⟨ub, 9, none⟩)) rfl (by kernel_rfl) (by kernel_rfl) (by kernel_rfl) (fun _ _ _ h => h) (Or.inl ⟨by rfl, fun Y hSW => by go_simp⟩) (by assumption) ?_
                    try simp only [Act.put, List.setIfInBounds_toArray, List.set_cons_zero, List.set_cons_succ]
                    refine wpAnyH_ready (rs := [11]) (by kernel_rfl) (by simp) ?_
                    refine AllReadyH.cons (o := { dst := none, op := .store 93 (.tmp 215) (.tmp 214), type := 0, pos := _, after := #[{ on := 10, ground := .data }, { on := 9, ground := .data }, { on := 9, ground := .chain }, { on := 0, ground := .phase }, { on := 1, ground := .phase }, { on := 2, ground := .phase }, { on := 3, ground := .phase }, { on := 4, ground := .phase }, { on := 5, ground := .phase }, { on := 6, ground := .phase }, { on := 7, ground := .phase }, { on := 8, ground := .phase }, { on := 9, ground := .phase }], guard := none }) rfl (fun K hK => ?_) AllReadyH.nil
                    have c9 : w23.cell? ⟨ub, 9, none⟩ = some nr := HU23.out.cell 9
                    have f9 := HU23.out.frozen 9
                    obtain ⟨na2, nc2, hnr2⟩ : ∃ na nc, nr2 = Value.slice na (k + 1) nc := by
                      rcases HO2.out.2 with h | ⟨g, cap, cur, h, _⟩
                      · have := h.2; simp at this
                      · exact ⟨_, _, h⟩
                    subst hnr2
                    have HU24 : Hid (Blk (w23.setCell ⟨ub, 9, none⟩ (.slice na2 (k + 1) nc2)) ub 95 #[.int .u64 (aHi n o : Nat), .int .u64 (aLo n o : Nat), .pointer (aZ p4 p6 n), .slice none 0 0, .pointer (some ⟨tb, 0, none⟩), .int .u8 0, .slice none 0 0, .int .u32 0, .int .u32 0, .slice na2 (k + 1) nc2]) := HU23.out.set 9 _
                    have HK24 := Hid.mk'' ((Kept.refl w23 (fun i => i = ub)).set (k := 9) (.inl rfl) (.slice na2 (k + 1) nc2))
                    have HO24 := Hid.mk'' (ownsRow_keptX HO2.out HK24.out (fun g e q => by have h1 := (World.ownsRow.lt HO2.out _ e).1; have : g = ub := q; omega))
                    have HB24 : Hid (Below w12.heap.size w12 (w23.setCell ⟨ub, 9, none⟩ (.slice na2 (k + 1) nc2))) := HB23.out.trans (HK24.out.below HB23.out.size (fun i q => by have h2 := HUs.out; have : i = ub := q; omega))
                    have HL24 := Hid.mk'' (Nat.lt_of_lt_of_le HL23.out HK24.out.size)
                    go_simp
                    refine hK.out _ _ HB24 (fun hHeld => ?_)
                    clear hK K c9 f9
                    refine wpAnyH_done (by kernel_rfl) ?_ _
                    go_wp2_with fail
                    go_roundw
                    case rel => exact ⟨k + 1, _, by omega, by go_num, HU24, HO24, HB24, HL24⟩
                    case measure => simp [intOf]; omega
              · obtain rfl : N = k := by omega
                have HO2 : Hid (wr.ownsRow (ub + 1) 98 42 nr rs.length (nlFlat rs p4 p6)) := by have h := HO.out; rw [HN.out, List.take_length] at h; exact h
                obtain ⟨na, nc, hnr, hNV⟩ := nv_of HO2.out
                subst hnr
                have HNV := Hid.mk'' hNV
                clear hNV HO HO2
                have HBX := Hid.mk'' (HBW.out.trans (HBu.out.mono HBW.out.size))
                have HATu : Hid (AT wr ub n o p4 p6 none 0 cs (some ⟨tb, 0, none⟩) (some q)) := ⟨HU.out.cell 0, HU.out.cell 1, HU.out.cell 2, (by rw [← HM.out]; exact HU.out.cell 3), HU.out.cell 4, (HAT.out.cv.later HWA.out).later HBu.out, (HAT.out.tv.later HWA.out).later HBu.out⟩
                have H9 : Hid (wr.cell? ⟨ub, 9, none⟩ = some (.slice na L.length nc)) := by rw [Hid, HLN.out, HN.out]; exact HU.out.cell 9
                have HG13 := Hid.mk'' (HG12.out.later HBu.out)
                obtain ⟨mg, cg, hGe, -, hMg⟩ := HG13.out.hg.lview
                obtain ⟨ms, cs2, hSe, -, hMs⟩ := HG13.out.hs.lview
                have HMg := Hid.mk'' hMg
                have HMs := Hid.mk'' hMs
                clear hMg hMs HG13 HG12
                subst hGe hSe
                obtain ⟨e0, e1, e2⟩ : wr.cell? ⟨w.heap.size + 1, 0, none⟩ = some (.int .u32 la) ∧ wr.cell? ⟨w.heap.size + 1, 1, none⟩ = some (.int .u32 pa) ∧ wr.cell? ⟨w.heap.size + 1, 2, none⟩ = some (.bool a4) := ⟨(HIn.out wr HBX.out).b2.cell 0, (HIn.out wr HBX.out).b2.cell 1, (HIn.out wr HBX.out).b2.cell 2⟩
                have HMl : Hid (∀ j, (el (msOf n la pa a4 o cs (some q) L) j).length ≤ 2000000000) := ms_len HPE.out.fit
                go_wp2_with (first
                  | (go_at_call 21; refine (updmarshal_any ub n la pa a4 o p4 p6 none 0 cs (some ⟨tb, 0, none⟩) (some q) na nc rs L _ (HIn.out wr HBX.out).fl (HIn.out wr HBX.out).zs HATu.out HBd.out HL.out H9.out HNV.out (fun r hr => (HGd.out r hr).1) (by have := HLN.out; omega) HPE.out.fit).mono ?_; rintro e w20 ⟨ma, cm, rfl, hMV, hb20⟩; have HMV := Hid.mk'' hMV; have HMg2 := Hid.mk'' (HMg.out.all hb20); have HMs2 := Hid.mk'' (HMs.out.all hb20); have HB20 := Hid.mk'' (HBX.out.trans (hb20.mono HBX.out.size)); clear hMV hb20)
                  | fail)
                obtain ⟨Q, hQ⟩ : ∃ Q, Q = (msOf n la pa a4 o cs (some q) L) := ⟨_, rfl⟩
                rw [← hQ] at HMV HMg2 HMs2 HMl
                rw [← hQ]
                have j8 : (Q.length : Int) ≤ 5000 := by have h := ms_count n la pa a4 o cs (some q) L; rw [← hQ] at h; have := HLN.out; omega
                clear hQ
                go_loopw [30] (fun i wr => ∃ (k nq : Nat), k ≤ Q.length ∧ i = .int .i64 k ∧ wr = w20.drewN nq) (fun i _ => Q.length - (intOf i).toNat)
                case atStart => exact ⟨0, 0, Nat.zero_le _, rfl, rfl⟩
                case round =>
                  obtain ⟨k, nq, hk, rfl, rfl⟩ := hrel
                  by_cases hlt : k < Q.length
                  · obtain ⟨b1, f1, g1, c1, hm1, hc1, hV1⟩ := HMV.out k hlt
                    obtain ⟨b2, f2, g2, c2, hm2, hc2, hV2⟩ := HMg2.out k hlt
                    obtain ⟨b3, f3, g3, c3, hm3, hc3, hV3⟩ := HMs2.out k hlt
                    subst hm1 hm2 hm3
                    have HV1 : Hid (∀ nq, View (w20.drewN nq) (some ⟨g1, 0, none⟩) (bc (el Q k))) := fun nq => hV1.drewN nq
                    have HV2 : Hid (∀ nq, View (w20.drewN nq) (some ⟨g2, 0, none⟩) (bc (el Q k))) := fun nq => hV2.drewN nq
                    have HV3 : Hid (∀ nq, View (w20.drewN nq) (some ⟨g3, 0, none⟩) (bc (el Q k))) := fun nq => hV3.drewN nq
                    have HLl : Hid ((el Q k).length ≤ 2000000000) := HMl.out k
                    have i1 : (0 : Int) ≤ (k : Int) := by omega
                    have i2 : (k : Int) < (Q.length : Int) := by omega
                    clear hV1 hV2 hV3
                    go_upto_region 57 with fail
                    go_region_held3 (fun w' => w'.cell? ⟨b1, f1 + k, none⟩ = some (.slice (some ⟨g1, 0, none⟩) (el Q k).length c1) ∧ w'.cell? ⟨b2, f2 + k, none⟩ = some (.slice (some ⟨g2, 0, none⟩) (el Q k).length c2) ∧ w'.cell? ⟨b3, f3 + k, none⟩ = some (.slice (some ⟨g3, 0, none⟩) (el Q k).length c3)) ((first | go_keep | exact ⟨hc1, hc2, hc3⟩)) ((first
                      | (go_at_call 22; have _tok := HE1; refine (equal_any _ _ _ _ (el Q k) _ HLl.out (by exact HV2.out _) (by exact HV3.out _)).mono ?_; rintro e w22 ⟨rfl, nq2, hq2⟩; subst hq2)
                      | (go_at_call 22; refine (equal_any _ _ _ _ (el Q k) _ HLl.out (by exact HV1.out _) (by exact HV2.out _)).mono ?_; rintro e w21 ⟨rfl, nq1, hq1⟩; subst hq1; have HE1 := Hid.mk'' True.intro)
                      | fail))
                    go_wp2_with fail
                    go_roundw
                    case rel => exact ⟨k + 1, _, by omega, by go_num, rfl⟩
                    case measure => simp [intOf]; omega
                  · go_wp2_with fail
                    go_ret
                    exact ⟨rfl, HXw.out.trans ((below_drewN HB20.out nq).mono HXw.out.size)⟩
          · have HNe : Hid (cur ((fxOf n o).length + (avOf la pa a4 cs (some q)).length) L N ≠ []) := cur_ne HPE.out.ne N (by omega) (by have := HLN.out; omega)
            have HCl : Hid (((fxOf n o).length + (avOf la pa a4 cs (some q)).length) + (cur ((fxOf n o).length + (avOf la pa a4 cs (some q)).length) L N).length ≤ 4069) := cur_fits (F := ((fxOf n o).length + (avOf la pa a4 cs (some q)).length)) (L := L) (.inl (by have := HPE.out.fit 0 (by have := HLN.out; omega); omega)) HPE.out.fit N (by have := HLN.out; omega) (by have := HLN.out; omega)
            have HVp : Hid (v.ownBlock ≠ some wl.heap.size) := fun e => by have := (HS.out.hv.lt _ e).1; omega
            have hgl := gr_le ((fxOf n o).length + (avOf la pa a4 cs (some q)).length) L N
            have HMs : Hid ((msOf n la pa a4 o cs (some q) L) = (gr ((fxOf n o).length + (avOf la pa a4 cs (some q)).length) L N).map (fun g => upd (flagOf 14) (14 : Nat) (fxOf n o) g (avOf la pa a4 cs (some q))) ++ [upd (flagOf 14) (14 : Nat) (fxOf n o) (cur ((fxOf n o).length + (avOf la pa a4 cs (some q)).length) L N) (avOf la pa a4 cs (some q))]) := by
              unfold msOf groups
              rw [Hid, HLN.out, if_neg HNe.out, List.map_append]
              rfl
            clear h0
            go_upto_region 44 with (first
              | (at_builtin; have _tok := HPs; go_must (refine wpList_append_any _ rfl (.tmp 192) (.tmp 195) 37 37 rfl (wl.heap.size + 2) 23 i0 (.slice none 0 0) 1 24 Tryf.underlying37 hi hz0 hz1 hz2 rfl u21 _ ys (by rfl) (by exact World.ownsRow.alloc HYs.out _) _ 1 [.slice (some ⟨w9.heap.size, 0, none⟩) bn bn] (by rfl) (by exact Src.one w10 Tryf.underlying37 _ _ _ 23) (by rw [List.length_map]; unfold maxLen; omega) (by rw [List.length_map]; omega) (by have := HS10.out.size; simp; omega) ?_); intro s12 w12 hown hext _ _; have HG12 := Hid.mk'' (HPs.out _ s12 w12 hown hext); clear hown hext)
              | (go_at_call 16; have _tok := HS9; refine (clone_msg bb bn bq _ _ HV9.out HBn.out HBnl.out).mono ?_; rintro e w10 ⟨rfl, hV10, hlt10, hb10⟩; have HS10 := Hid.mk'' (HS9.out.later hb10); obtain ⟨ys, hys, hps⟩ := HS10.out.pushs; have HYs := Hid.mk'' hys; have HPs : Hid (∀ (ob : Obj) (s' : Value) (W' : World), W'.ownsRow (wl.heap.size + 2) 23 1 s' (((gr ((fxOf n o).length + (avOf la pa a4 cs (some q)).length) L N).map (fun g => upd (flagOf 14) (14 : Nat) (fxOf n o) g (avOf la pa a4 cs (some q)))).length + 1) (ys ++ [.slice (some ⟨w9.heap.size, 0, none⟩) bn bn]) → Ext (w10.alloc ob) W' u21 s' → LG wl W' g9 s' (msOf n la pa a4 o cs (some q) L) (msOf n la pa a4 o cs (some q) L)) := (fun ob s' W' h1 h2 => by have h := hps ob s' W' _ _ bn bn h1 h2 hV10 HBn.out HS9.out.size hlt10 (HS9.out.fresh (Nat.le_refl _)); rw [← HMs.out] at h; exact h); clear hys hps hV10 hlt10 hb10)
              | (at_builtin; have _tok := HPg; go_must (refine wpList_append_any _ rfl (.tmp 188) (.tmp 190) 37 37 rfl (wl.heap.size + 2) 23 i0 (.slice none 0 0) 1 24 Tryf.underlying37 hi hz0 hz1 hz2 rfl u20 _ xs (by rfl) (by exact World.ownsRow.alloc HXs.out _) _ 1 [.slice (some ⟨bb, 0, none⟩) bn bq] (by rfl) (by exact Src.one w8 Tryf.underlying37 _ _ _ 23) (by rw [List.length_map]; unfold maxLen; omega) (by rw [List.length_map]; omega) (by have := HS8.out.size; simp; omega) ?_); intro g9 w9 hown hext _ _; have HS9 := Hid.mk'' (HPg.out _ g9 w9 hown hext); have HV9 := Hid.mk'' (HV8.out.ext hext.of_alloc (fun b o' e q => by cases e; exact HMb.out (.inr (.inr (.inl q))))); clear hown hext)
              | (go_at_call 20; refine (annflush_some HPE.out (wl.heap.size + 1) (wl.heap.size + 2) v nv (cur ((fxOf n o).length + (avOf la pa a4 cs (some q)).length) L N) _ HS.out.below HS.out.hP HS.out.hA HS.out.hv HNe.out HVp.out (by have := HCl.out; omega)).mono ?_; rintro e w8 ⟨bb, bn, bq, rfl, hm8, hk8⟩; have HS8 := Hid.mk'' (LG.of HS.out hk8); have HV8 := Hid.mk'' (view_row hm8); have HBn : Hid ((upd (flagOf 14) (14 : Nat) (fxOf n o) (cur ((fxOf n o).length + (avOf la pa a4 cs (some q)).length) L N) (avOf la pa a4 cs (some q))).length = bn) := (by rcases hm8.form with ⟨e, _⟩ | ⟨g', c', e, _⟩; (cases e); (cases e; rfl)); have hlt8 := hm8.lt bb rfl; have HMb : Hid (¬ MM (.slice none 0 0) (.slice none 0 0) u20 u21 bb) := (fun q => HS.out.fresh hlt8.1 (MM.less q)); have HBnl : Hid (bn ≤ 10000000) := (by rw [Hid, ← HBn.out]; have h1 := upd_len (flagOf 14) (14 : Nat) (fxOf n o) (cur ((fxOf n o).length + (avOf la pa a4 cs (some q)).length) L N) (avOf la pa a4 cs (some q)); have h2 := HCl.out; omega); obtain ⟨xs, hxs, hpg⟩ := HS8.out.pushg; have HXs := Hid.mk'' hxs; have HPg : Hid (∀ (ob : Obj) (g' : Value) (W' : World), W'.ownsRow (wl.heap.size + 2) 23 1 g' (((gr ((fxOf n o).length + (avOf la pa a4 cs (some q)).length) L N).map (fun g => upd (flagOf 14) (14 : Nat) (fxOf n o) g (avOf la pa a4 cs (some q)))).length + 1) (xs ++ [.slice (some ⟨bb, 0, none⟩) bn bq]) → Ext (w8.alloc ob) W' u20 g' → LG wl W' g' u21 (msOf n la pa a4 o cs (some q) L) ((gr ((fxOf n o).length + (avOf la pa a4 cs (some q)).length) L N).map (fun g => upd (flagOf 14) (14 : Nat) (fxOf n o) g (avOf la pa a4 cs (some q))))) := (fun ob g' W' h1 h2 => by have h := hpg ob g' W' _ bb bn bq h1 h2 HV8.out HBn.out (Nat.le_trans HS.out.size hlt8.1) hlt8.2 HMb.out; rw [← HMs.out] at h; exact h); clear hm8 hk8 hxs hpg)
              | fail)
            have HWA : Hid (Below wA.heap.size wA w12) := HAwl.out.trans (HG12.out.below.mono HAwl.out.size)
            have HAbW := Hid.mk'' (blk_on HWA.out HAb.out)
            have HBW := Hid.mk'' (HBwl.out.trans (HG12.out.below.mono HBwl.out.size))
            obtain ⟨q0, q1, q2, q3, q4, q5, q6, q7, q8⟩ : w12.cell? ⟨ab, 0, none⟩ = some (.int .u64 (aHi n o : Nat)) ∧ w12.cell? ⟨ab, 1, none⟩ = some (.int .u64 (aLo n o : Nat)) ∧ w12.cell? ⟨ab, 2, none⟩ = some (.pointer (aZ p4 p6 n)) ∧ w12.cell? ⟨ab, 3, none⟩ = some (.slice none 0 0) ∧ w12.cell? ⟨ab, 4, none⟩ = some (.pointer (some ⟨tb, 0, none⟩)) ∧ w12.cell? ⟨ab, 5, none⟩ = some (.int .u8 0) ∧ w12.cell? ⟨ab, 6, none⟩ = some (.slice none 0 0) ∧ w12.cell? ⟨ab, 7, none⟩ = some (.int .u32 0) ∧ w12.cell? ⟨ab, 8, none⟩ = some (.int .u32 0) := ⟨HAbW.out.cell 0, HAbW.out.cell 1, HAbW.out.cell 2, HAbW.out.cell 3, HAbW.out.cell 4, HAbW.out.cell 5, HAbW.out.cell 6, HAbW.out.cell 7, HAbW.out.cell 8⟩
            go_upto_region 45 with fail
            obtain ⟨wU, hwU⟩ : ∃ wU, wU = w12.alloc (.cells #[.int .u64 (aHi n o : Nat), .int .u64 (aLo n o : Nat), .pointer (aZ p4 p6 n), .slice none 0 0, .pointer (some ⟨tb, 0, none⟩), .int .u8 0, .slice none 0 0, .int .u32 0, .int .u32 0, .slice none 0 0] 95) := ⟨_, rfl⟩
            obtain ⟨ub, hub⟩ : ∃ ub, ub = w12.heap.size := ⟨_, rfl⟩
            have HU0 : Hid (Blk wU ub 95 #[.int .u64 (aHi n o : Nat), .int .u64 (aLo n o : Nat), .pointer (aZ p4 p6 n), .slice none 0 0, .pointer (some ⟨tb, 0, none⟩), .int .u8 0, .slice none 0 0, .int .u32 0, .int .u32 0, .slice none 0 0]) := by subst hwU hub; exact Blk.new _ _ _
            have HWU : Hid (Below w12.heap.size w12 wU) := by subst hwU; exact (Below.refl _ _).alloc (Nat.le_refl _) _
            have HUs : Hid (w12.heap.size = ub) := hub.symm
            rw [← hwU, ← hub]
            clear hwU hub q0 q1 q2 q3 q4 q5 q6 q7 q8
            obtain ⟨i8, h8i, h8z0, h8z1, h8z2⟩ := info_parts info98
            go_wp2_with fail
            go_loopw [28] (fun i wr => ∃ (k : Nat) (nr : Value), k ≤ N ∧ i = .int .i64 k ∧ Hid (Blk wr ub 95 #[.int .u64 (aHi n o : Nat), .int .u64 (aLo n o : Nat), .pointer (aZ p4 p6 n), .slice none 0 0, .pointer (some ⟨tb, 0, none⟩), .int .u8 0, .slice none 0 0, .int .u32 0, .int .u32 0, nr]) ∧ Hid (wr.ownsRow (ub + 1) 98 42 nr k (nlFlat (rs.take k) p4 p6)) ∧ Hid (Below w12.heap.size w12 wr) ∧ Hid (ub < wr.heap.size)) (fun i _ => N - (intOf i).toNat)
            case atStart => exact ⟨0, _, Nat.zero_le _, rfl, HU0, World.ownsRow_nil _ _ _ _, HWU, HU0.out.lt⟩
            case round =>
              obtain ⟨k, nr, hk, rfl, HU, HO, HBu, HUl⟩ := hrel
              by_cases hlt : k < N
              · obtain ⟨r, hr⟩ : ∃ r, rs[k]? = some r := ⟨_, List.getElem?_eq_getElem (by have := HN.out; omega)⟩
                have HR := Hid.mk'' hr
                obtain ⟨rb, ro, hra, hrow⟩ : ∃ rb ro, ra = some ⟨rb, ro, none⟩ ∧ RC w12 rb (ro + k * 46) r.ins := by
                  rcases (HIn.out w12 HBW.out).rv with h | ⟨rb, ro, e, h⟩
                  · rw [h] at hr; cases hr
                  · exact ⟨rb, ro, e, h k r hr⟩
                subst hra
                have HRow : Hid (∀ Y, Below w12.heap.size w12 Y → RC Y rb (ro + k * 46) r.ins) := fun Y hb => hrow.on hb.size (hb.block _ hrow.1)
                have HZW : Hid (∀ Y, Below w12.heap.size w12 Y → Zs Y p4 p6) := fun Y hb => (HIn.out w12 HBW.out).zs.later hb
                have i1 : (0 : Int) ≤ (k : Int) := by omega
                have i2 : (k : Int) < (N : Int) := by omega
                clear hrow hr
                go_upto_region 48 with fail
                refine wp_region_held_drew (S := fun Y => Hid (Below w12.heap.size w12 Y)) (by kernel_rfl) (below_drew HBu.out) (fun hHeld => ?_)
                refine wpAnyH_take (i := 0) (oi := { dst := some 205, op := .fieldAddr 95 (.tmp 27) 1, type := 0, pos := _, after := #[], guard := none }) (v := .pointer (some ⟨ub, 9, none⟩)) rfl (by kernel_rfl) (by kernel_rfl) (by kernel_rfl) (fun _ _ _ h => h) (Or.inl ⟨by rfl, fun Y hSW => by go_simp⟩) (by assumption) ?_
                try simp only [Act.put, List.setIfInBounds_toArray, List.set_cons_zero, List.set_cons_succ]
                refine wpAnyH_take (i := 2) (oi := { dst := some 207, op := .move (.tmp 5), type := 45, pos := _, after := #[], guard := none }) (v := .slice (some ⟨rb, ro, none⟩) N rc) rfl (by kernel_rfl) (by kernel_rfl) (by kernel_rfl) (fun _ _ _ h => h) (Or.inl ⟨by rfl, fun Y hSW => by go_simp⟩) (by assumption) ?_
                try simp only [Act.put, List.setIfInBounds_toArray, List.set_cons_zero, List.set_cons_succ]
                refine wpAnyH_take (i := 3) (oi := { dst := some 208, op := .move (.tmp 28), type := 3, pos := _, after := #[], guard := none }) (v := .int .i64 (k : Int)) rfl (by kernel_rfl) (by kernel_rfl) (by kernel_rfl) (fun _ _ _ h => h) (Or.inl ⟨by rfl, fun Y hSW => by go_simp⟩) (by assumption) ?_
                try simp only [Act.put, List.setIfInBounds_toArray, List.set_cons_zero, List.set_cons_succ]
                refine wpAnyH_take (i := 4) (oi := { dst := some 209, op := .indexAddr 45 (.tmp 207) (.tmp 208), type := 0, pos := _, after := #[{ on := 2, ground := .data }, { on := 3, ground := .data }], guard := none }) (v := .pointer (some ⟨rb, ro + k * 46, none⟩)) rfl (by kernel_rfl) (by kernel_rfl) (by kernel_rfl) (fun _ _ _ h => h) (Or.inl ⟨by rfl, fun Y hSW => by go_simp⟩) (by assumption) ?_
                try simp only [Act.put, List.setIfInBounds_toArray, List.set_cons_zero, List.set_cons_succ]
                refine wpAnyH_take (i := 5) (oi := { dst := some 210, op := .load 53 (.tmp 209), type := 53, pos := _, after := #[{ on := 4, ground := .data }], guard := none }) (v := .agg r.ins) rfl (by kernel_rfl) (by kernel_rfl) (by kernel_rfl) (fun _ _ _ h => h) (yieldsIf_load_mid (by rfl) _ _ rfl _ _ rfl r.ins.toList _ (fun Y h => (HRow.out Y h.out).range) Tryf.underlying53 rfl info53) (by assumption) ?_
                try simp only [Act.put, List.setIfInBounds_toArray, List.set_cons_zero, List.set_cons_succ]
                have HUc : Hid (Blk wr.drew ub 95 #[.int .u64 (aHi n o : Nat), .int .u64 (aLo n o : Nat), .pointer (aZ p4 p6 n), .slice none 0 0, .pointer (some ⟨tb, 0, none⟩), .int .u8 0, .slice none 0 0, .int .u32 0, .int .u32 0, nr]) := HU.out
                have HOc : Hid (wr.drew.ownsRow (ub + 1) 98 42 nr k (nlFlat (rs.take k) p4 p6)) := HO.out
                have HLc : Hid (ub < wr.drew.heap.size) := HUl.out
                refine wpAnyH_ready (rs := [1, 6]) (by kernel_rfl) (by simp) ?_
                refine AllReadyH.cons (o := { dst := some 206, op := .load 93 (.tmp 205), type := 93, pos := _, after := #[{ on := 0, ground := .data }], guard := none }) rfl (fun K hK => ?_) (AllReadyH.cons (o := { dst := some 211, op := .call { callee := .value (.func 18), args := #[.tmp 210], argTypes := #[53] }, type := 88, pos := _, after := #[{ on := 5, ground := .data }], guard := none }) rfl (fun K hK => ?_) AllReadyH.nil)
                · have c9 : wr.drew.cell? ⟨ub, 9, none⟩ = some nr := HUc.out.cell 9
                  go_simp
                  clear c9
                  refine hK.out _ _ hHeld (fun hHeld => ?_)
                  clear hK K
                  try simp only [Act.put, List.setIfInBounds_toArray, List.set_cons_zero, List.set_cons_succ]
                  refine wpAnyH_ready (rs := [6]) (by kernel_rfl) (by simp) ?_
                  refine AllReadyH.cons (o := { dst := some 211, op := .call { callee := .value (.func 18), args := #[.tmp 210], argTypes := #[53] }, type := 88, pos := _, after := #[{ on := 5, ground := .data }], guard := none }) rfl (fun K hK => ?_) AllReadyH.nil
                  go_simp
                  go_at_call 18
                  refine (route_any r p4 p6 _ (HZW.out _ hHeld.out)).mono ?_
                  rintro e w21 ⟨rfl, hb21⟩
                  have HB21 : Hid (Below w12.heap.size w12 w21) := hHeld.out.trans (hb21.mono hHeld.out.size)
                  have HUn := Hid.mk'' (blk_on hb21 HUc.out)
                  have HOn := Hid.mk'' (ownsRow_keptX HOc.out (Kept.ofAll hb21 (fun _ => False)) (fun _ _ q => q))
                  have HLn := Hid.mk'' (Nat.lt_of_lt_of_le HLc.out hb21.size)
                  clear HUc HOc HLc
                  have HUc := HUn
                  have HOc := HOn
                  have HLc := HLn
                  clear HUn HOn HLn hb21 hHeld
                  go_wp2_with fail
                  refine hK.out _ _ HB21 (fun hHeld => ?_)
                  clear hK K
                  try simp only [Act.put, List.setIfInBounds_toArray, List.set_cons_zero, List.set_cons_succ]
                  refine wpAnyH_take (i := 7) (oi := { dst := some 212, op := .build 98 #[(0, .tmp 211)], type := 98, pos := _, after := #[{ on := 6, ground := .data }], guard := none }) (v := .agg (r.nls p4 p6)) rfl (by kernel_rfl) (by kernel_rfl) (by kernel_rfl) (fun _ _ _ h => h) (Or.inl ⟨by rfl, fun Y hSW => by unfold RI.outs RI.nls; go_simp⟩) (by assumption) ?_
                  try simp only [Act.put, List.setIfInBounds_toArray, List.set_cons_zero, List.set_cons_succ]
                  refine wpAnyH_ready (rs := [8]) (by kernel_rfl) (by simp) ?_
                  refine AllReadyH.cons (o := { dst := some 213, op := .buildSlice 93 1 #[(0, .tmp 212)], type := 93, pos := _, after := #[{ on := 7, ground := .data }], guard := none }) rfl (fun K hK => ?_) AllReadyH.nil
                  unfold RI.nls
                  go_simp
                  have hnls : r.nls p4 p6 = #[.int .u8 r.ty, .int .u8 (r.rd 0).toNat, .int .u8 (r.rd 1).toNat, .int .u8 (r.rd 2).toNat, .int .u8 (r.rd 3).toNat, .int .u8 (r.rd 4).toNat, .int .u8 (r.rd 5).toNat, .int .u8 (r.rd 6).toNat, .int .u8 (r.rd 7).toNat, .int .u8 (r.es 0).toNat, .int .u8 (r.es 1).toNat, .int .u8 (r.es 2).toNat, .int .u8 (r.es 3).toNat, .int .u8 (r.es 4).toNat, .int .u8 (r.es 5).toNat, .int .u8 (r.es 6).toNat, .int .u8 (r.es 7).toNat, .int .u8 (r.es 8).toNat, .int .u8 (r.es 9).toNat, .int .u32 r.tag, .int .u8 (r.mac 0).toNat, .int .u8 (r.mac 1).toNat, .int .u8 (r.mac 2).toNat, .int .u8 (r.mac 3).toNat, .int .u8 (r.mac 4).toNat, .int .u8 (r.mac 5).toNat, .int .u64 (aHi r.n r.ip : Nat), .int .u64 (aLo r.n r.ip : Nat), .pointer (aZ p4 p6 r.n), .int .u64 0, .int .u64 0, .pointer none, .int .u8 0, .int .u64 0, .int .u64 0, .pointer none, .int .u32 r.l1, .int .u32 r.l2, .bool r.h2, .bool false, .int .u8 0, .int .i64 0] := rfl
                  rw [← hnls]
                  obtain ⟨w22, hw22⟩ : ∃ w22, w22 = w21.alloc (.cells (r.nls p4 p6) 98) := ⟨_, rfl⟩
                  rw [← hw22]
                  have hb22 : Below w21.heap.size w21 w22 := by subst hw22; exact (Below.refl _ _).alloc (Nat.le_refl _) _
                  have HSrc : Hid (Src Tryf.prog 42 93 (.slice (some ⟨w21.heap.size, 0, none⟩) 1 1) 1 (r.nls p4 p6).toList w22) := by rw [hw22]; exact Src.nl _ r p4 p6
                  have HB22 : Hid (Below w12.heap.size w12 w22) := hHeld.out.trans (hb22.mono hHeld.out.size)
                  have HUn := Hid.mk'' (blk_on hb22 HUc.out)
                  have HOn := Hid.mk'' (ownsRow_keptX HOc.out (Kept.ofAll hb22 (fun _ => False)) (fun _ _ q => q))
                  have HLn := Hid.mk'' (Nat.lt_of_lt_of_le HLc.out hb22.size)
                  clear HUc HOc HLc
                  have HUc := HUn
                  have HOc := HOn
                  have HLc := HLn
                  clear HUn HOn HLn hb22 hHeld hw22 hnls
                  refine hK.out _ _ HB22 (fun hHeld => ?_)
                  clear hK K
                  try simp only [Act.put, List.setIfInBounds_toArray, List.set_cons_zero, List.set_cons_succ]
                  refine wpAnyH_ready (rs := [9]) (by kernel_rfl) (by simp) ?_
                  refine AllReadyH.cons (o := { dst := some 214, op := .call { callee := .builtin .append, args := #[.tmp 206, .tmp 213], argTypes := #[93, 93] }, type := 93, pos := _, after := #[{ on := 1, ground := .data }, { on := 8, ground := .data }, { on := 6, ground := .chain }], guard := none }) rfl (fun K hK => ?_) AllReadyH.nil
                  refine wp_append_any _ (.tmp 206) (.tmp 213) 93 93 rfl (ub + 1) 98 i8 _ 42 144 Tryf.underlying93 h8i h8z0 h8z1 h8z2 rfl nr k (nlFlat (rs.take k) p4 p6) (by rfl) (by exact HOc.out) _ 1 (r.nls p4 p6).toList (by rfl) (by exact HSrc.out) (by unfold maxLen; omega) (by omega) (by have := HLc.out; omega) ?_
                  intro nr2 w23 hown hext _ _
                  have HO2 : Hid (w23.ownsRow (ub + 1) 98 42 nr2 (k + 1) (nlFlat (rs.take (k + 1)) p4 p6)) := by rw [Hid, nlFlat_take HR.out]; exact hown
                  have HU23 := Hid.mk'' (HUc.out.kept (Kept.ofExt hext) (fun e => by have := (World.ownsRow.lt HOc.out _ e).1; omega))
                  have HB23 : Hid (Below w12.heap.size w12 w23) := hext.below hHeld.out hHeld.out.size (fun g e => by have h1 := (World.ownsRow.lt HOc.out _ e).1; have h2 := HUs.out; omega)
                  have HL23 := Hid.mk'' (Nat.lt_of_lt_of_le HLc.out hext.size)
                  clear hown hext hHeld HUc HOc HLc
                  refine hK.out _ _ HB23 (fun hHeld => ?_)
                  clear hK K
                  try simp only [Act.put, List.setIfInBounds_toArray, List.set_cons_zero, List.set_cons_succ]
                  refine wpAnyH_take (i := 10) (oi := { dst := some 215, op := .fieldAddr 95 (.tmp 27) 1, type := 0, pos := _, after := #[{ on := 0, ground := .phase }, { on := 1, ground := .phase }, { on := 2, ground := .phase }, { on := 3, ground := .phase }, { on := 4, ground := .phase }, { on := 5, ground := .phase }, { on := 6, ground := .phase }, { on := 7, ground := .phase }, { on := 8, ground := .phase }, { on := 9, ground := .phase }], guard := none }) (v := .pointer (some ⟨ub, 9, none⟩)) rfl (by kernel_rfl) (by kernel_rfl) (by kernel_rfl) (fun _ _ _ h => h) (Or.inl ⟨by rfl, fun Y hSW => by go_simp⟩) (by assumption) ?_
                  try simp only [Act.put, List.setIfInBounds_toArray, List.set_cons_zero, List.set_cons_succ]
                  refine wpAnyH_ready (rs := [11]) (by kernel_rfl) (by simp) ?_
                  refine AllReadyH.cons (o := { dst := none, op := .store 93 (.tmp 215) (.tmp 214), type := 0, pos := _, after := #[{ on := 10, ground := .data }, { on := 9, ground := .data }, { on := 9, ground := .chain }, { on := 0, ground := .phase }, { on := 1, ground := .phase }, { on := 2, ground := .phase }, { on := 3, ground := .phase }, { on := 4, ground := .phase }, { on := 5, ground := .phase }, { on := 6, ground := .phase }, { on := 7, ground := .phase }, { on := 8, ground := .phase }, { on := 9, ground := .phase }], guard := none }) rfl (fun K hK => ?_) AllReadyH.nil
                  have c9 : w23.cell? ⟨ub, 9, none⟩ = some nr := HU23.out.cell 9
                  have f9 := HU23.out.frozen 9
                  obtain ⟨na2, nc2, hnr2⟩ : ∃ na nc, nr2 = Value.slice na (k + 1) nc := by
                    rcases HO2.out.2 with h | ⟨g, cap, cur, h, _⟩
                    · have := h.2; simp at this
                    · exact ⟨_, _, h⟩
                  subst hnr2
                  have HU24 : Hid (Blk (w23.setCell ⟨ub, 9, none⟩ (.slice na2 (k + 1) nc2)) ub 95 #[.int .u64 (aHi n o : Nat), .int .u64 (aLo n o : Nat), .pointer (aZ p4 p6 n), .slice none 0 0, .pointer (some ⟨tb, 0, none⟩), .int .u8 0, .slice none 0 0, .int .u32 0, .int .u32 0, .slice na2 (k + 1) nc2]) := HU23.out.set 9 _
                  have HK24 := Hid.mk'' ((Kept.refl w23 (fun i => i = ub)).set (k := 9) (.inl rfl) (.slice na2 (k + 1) nc2))
                  have HO24 := Hid.mk'' (ownsRow_keptX HO2.out HK24.out (fun g e q => by have h1 := (World.ownsRow.lt HO2.out _ e).1; have : g = ub := q; omega))
                  have HB24 : Hid (Below w12.heap.size w12 (w23.setCell ⟨ub, 9, none⟩ (.slice na2 (k + 1) nc2))) := HB23.out.trans (HK24.out.below HB23.out.size (fun i q => by have h2 := HUs.out; have : i = ub := q; omega))
                  have HL24 := Hid.mk'' (Nat.lt_of_lt_of_le HL23.out HK24.out.size)
                  go_simp
                  refine hK.out _ _ HB24 (fun hHeld => ?_)
                  clear hK K c9 f9
                  refine wpAnyH_done (by kernel_rfl) ?_ _
                  go_wp2_with fail
                  go_roundw
                  case rel => exact ⟨k + 1, _, by omega, by go_num, HU24, HO24, HB24, HL24⟩
                  case measure => simp [intOf]; omega
                · go_simp
                  go_at_call 18
                  refine (route_any r p4 p6 _ (HZW.out _ hHeld.out)).mono ?_
                  rintro e w21 ⟨rfl, hb21⟩
                  have HB21 : Hid (Below w12.heap.size w12 w21) := hHeld.out.trans (hb21.mono hHeld.out.size)
                  have HUn := Hid.mk'' (blk_on hb21 HUc.out)
                  have HOn := Hid.mk'' (ownsRow_keptX HOc.out (Kept.ofAll hb21 (fun _ => False)) (fun _ _ q => q))
                  have HLn := Hid.mk'' (Nat.lt_of_lt_of_le HLc.out hb21.size)
                  clear HUc HOc HLc
                  have HUc := HUn
                  have HOc := HOn
                  have HLc := HLn
                  clear HUn HOn HLn hb21 hHeld
                  go_wp2_with fail
                  refine hK.out _ _ HB21 (fun hHeld => ?_)
                  clear hK K
                  try simp only [Act.put, List.setIfInBounds_toArray, List.set_cons_zero, List.set_cons_succ]
                  refine wpAnyH_take (i := 7) (oi := { dst := some 212, op := .build 98 #[(0, .tmp 211)], type := 98, pos := _, after := #[{ on := 6, ground := .data }], guard := none }) (v := .agg (r.nls p4 p6)) rfl (by kernel_rfl) (by kernel_rfl) (by kernel_rfl) (fun _ _ _ h => h) (Or.inl ⟨by rfl, fun Y hSW => by unfold RI.outs RI.nls; go_simp⟩) (by assumption) ?_
                  try simp only [Act.put, List.setIfInBounds_toArray, List.set_cons_zero, List.set_cons_succ]
                  refine wpAnyH_ready (rs := [1, 8]) (by kernel_rfl) (by simp) ?_
                  refine AllReadyH.cons (o := { dst := some 206, op := .load 93 (.tmp 205), type := 93, pos := _, after := #[{ on := 0, ground := .data }], guard := none }) rfl (fun K hK => ?_) (AllReadyH.cons (o := { dst := some 213, op := .buildSlice 93 1 #[(0, .tmp 212)], type := 93, pos := _, after := #[{ on := 7, ground := .data }], guard := none }) rfl (fun K hK => ?_) AllReadyH.nil)
                  · have c9 : w21.cell? ⟨ub, 9, none⟩ = some nr := HUc.out.cell 9
                    go_simp
                    clear c9
                    refine hK.out _ _ hHeld (fun hHeld => ?_)
                    clear hK K
                    try simp only [Act.put, List.setIfInBounds_toArray, List.set_cons_zero, List.set_cons_succ]
                    refine wpAnyH_ready (rs := [8]) (by kernel_rfl) (by simp) ?_
                    refine AllReadyH.cons (o := { dst := some 213, op := .buildSlice 93 1 #[(0, .tmp 212)], type := 93, pos := _, after := #[{ on := 7, ground := .data }], guard := none }) rfl (fun K hK => ?_) AllReadyH.nil
                    unfold RI.nls
                    go_simp
                    have hnls : r.nls p4 p6 = #[.int .u8 r.ty, .int .u8 (r.rd 0).toNat, .int .u8 (r.rd 1).toNat, .int .u8 (r.rd 2).toNat, .int .u8 (r.rd 3).toNat, .int .u8 (r.rd 4).toNat, .int .u8 (r.rd 5).toNat, .int .u8 (r.rd 6).toNat, .int .u8 (r.rd 7).toNat, .int .u8 (r.es 0).toNat, .int .u8 (r.es 1).toNat, .int .u8 (r.es 2).toNat, .int .u8 (r.es 3).toNat, .int .u8 (r.es 4).toNat, .int .u8 (r.es 5).toNat, .int .u8 (r.es 6).toNat, .int .u8 (r.es 7).toNat, .int .u8 (r.es 8).toNat, .int .u8 (r.es 9).toNat, .int .u32 r.tag, .int .u8 (r.mac 0).toNat, .int .u8 (r.mac 1).toNat, .int .u8 (r.mac 2).toNat, .int .u8 (r.mac 3).toNat, .int .u8 (r.mac 4).toNat, .int .u8 (r.mac 5).toNat, .int .u64 (aHi r.n r.ip : Nat), .int .u64 (aLo r.n r.ip : Nat), .pointer (aZ p4 p6 r.n), .int .u64 0, .int .u64 0, .pointer none, .int .u8 0, .int .u64 0, .int .u64 0, .pointer none, .int .u32 r.l1, .int .u32 r.l2, .bool r.h2, .bool false, .int .u8 0, .int .i64 0] := rfl
                    rw [← hnls]
                    obtain ⟨w22, hw22⟩ : ∃ w22, w22 = w21.alloc (.cells (r.nls p4 p6) 98) := ⟨_, rfl⟩
                    rw [← hw22]
                    have hb22 : Below w21.heap.size w21 w22 := by subst hw22; exact (Below.refl _ _).alloc (Nat.le_refl _) _
                    have HSrc : Hid (Src Tryf.prog 42 93 (.slice (some ⟨w21.heap.size, 0, none⟩) 1 1) 1 (r.nls p4 p6).toList w22) := by rw [hw22]; exact Src.nl _ r p4 p6
                    have HB22 : Hid (Below w12.heap.size w12 w22) := hHeld.out.trans (hb22.mono hHeld.out.size)
                    have HUn := Hid.mk'' (blk_on hb22 HUc.out)
                    have HOn := Hid.mk'' (ownsRow_keptX HOc.out (Kept.ofAll hb22 (fun _ => False)) (fun _ _ q => q))
                    have HLn := Hid.mk'' (Nat.lt_of_lt_of_le HLc.out hb22.size)
                    clear HUc HOc HLc
                    have HUc := HUn
                    have HOc := HOn
                    have HLc := HLn
                    clear HUn HOn HLn hb22 hHeld hw22 hnls
                    refine hK.out _ _ HB22 (fun hHeld => ?_)
                    clear hK K
                    try simp only [Act.put, List.setIfInBounds_toArray, List.set_cons_zero, List.set_cons_succ]
                    refine wpAnyH_ready (rs := [9]) (by kernel_rfl) (by simp) ?_
                    refine AllReadyH.cons (o := { dst := some 214, op := .call { callee := .builtin .append, args := #[.tmp 206, .tmp 213], argTypes := #[93, 93] }, type := 93, pos := _, after := #[{ on := 1, ground := .data }, { on := 8, ground := .data }, { on := 6, ground := .chain }], guard := none }) rfl (fun K hK => ?_) AllReadyH.nil
                    refine wp_append_any _ (.tmp 206) (.tmp 213) 93 93 rfl (ub + 1) 98 i8 _ 42 144 Tryf.underlying93 h8i h8z0 h8z1 h8z2 rfl nr k (nlFlat (rs.take k) p4 p6) (by rfl) (by exact HOc.out) _ 1 (r.nls p4 p6).toList (by rfl) (by exact HSrc.out) (by unfold maxLen; omega) (by omega) (by have := HLc.out; omega) ?_
                    intro nr2 w23 hown hext _ _
                    have HO2 : Hid (w23.ownsRow (ub + 1) 98 42 nr2 (k + 1) (nlFlat (rs.take (k + 1)) p4 p6)) := by rw [Hid, nlFlat_take HR.out]; exact hown
                    have HU23 := Hid.mk'' (HUc.out.kept (Kept.ofExt hext) (fun e => by have := (World.ownsRow.lt HOc.out _ e).1; omega))
                    have HB23 : Hid (Below w12.heap.size w12 w23) := hext.below hHeld.out hHeld.out.size (fun g e => by have h1 := (World.ownsRow.lt HOc.out _ e).1; have h2 := HUs.out; omega)
                    have HL23 := Hid.mk'' (Nat.lt_of_lt_of_le HLc.out hext.size)
                    clear hown hext hHeld HUc HOc HLc
                    refine hK.out _ _ HB23 (fun hHeld => ?_)
                    clear hK K
                    try simp only [Act.put, List.setIfInBounds_toArray, List.set_cons_zero, List.set_cons_succ]
                    refine wpAnyH_take (i := 10) (oi := { dst := some 215, op := .fieldAddr 95 (.tmp 27) 1, type := 0, pos := _, after := #[{ on := 0, ground := .phase }, { on := 1, ground := .phase }, { on := 2, ground := .phase }, { on := 3, ground := .phase }, { on := 4, ground := .phase }, { on := 5, ground := .phase }, { on := 6, ground := .phase }, { on := 7, ground := .phase }, { on := 8, ground := .phase }, { on := 9, ground := .phase }], guard := none }) (v := .pointer (some ⟨ub, 9, none⟩)) rfl (by kernel_rfl) (by kernel_rfl) (by kernel_rfl) (fun _ _ _ h => h) (Or.inl ⟨by rfl, fun Y hSW => by go_simp⟩) (by assumption) ?_
                    try simp only [Act.put, List.setIfInBounds_toArray, List.set_cons_zero, List.set_cons_succ]
                    refine wpAnyH_ready (rs := [11]) (by kernel_rfl) (by simp) ?_
                    refine AllReadyH.cons (o := { dst := none, op := .store 93 (.tmp 215) (.tmp 214), type := 0, pos := _, after := #[{ on := 10, ground := .data }, { on := 9, ground := .data }, { on := 9, ground := .chain }, { on := 0, ground := .phase }, { on := 1, ground := .phase }, { on := 2, ground := .phase }, { on := 3, ground := .phase }, { on := 4, ground := .phase }, { on := 5, ground := .phase }, { on := 6, ground := .phase }, { on := 7, ground := .phase }, { on := 8, ground := .phase }, { on := 9, ground := .phase }], guard := none }) rfl (fun K hK => ?_) AllReadyH.nil
                    have c9 : w23.cell? ⟨ub, 9, none⟩ = some nr := HU23.out.cell 9
                    have f9 := HU23.out.frozen 9
                    obtain ⟨na2, nc2, hnr2⟩ : ∃ na nc, nr2 = Value.slice na (k + 1) nc := by
                      rcases HO2.out.2 with h | ⟨g, cap, cur, h, _⟩
                      · have := h.2; simp at this
                      · exact ⟨_, _, h⟩
                    subst hnr2
                    have HU24 : Hid (Blk (w23.setCell ⟨ub, 9, none⟩ (.slice na2 (k + 1) nc2)) ub 95 #[.int .u64 (aHi n o : Nat), .int .u64 (aLo n o : Nat), .pointer (aZ p4 p6 n), .slice none 0 0, .pointer (some ⟨tb, 0, none⟩), .int .u8 0, .slice none 0 0, .int .u32 0, .int .u32 0, .slice na2 (k + 1) nc2]) := HU23.out.set 9 _
                    have HK24 := Hid.mk'' ((Kept.refl w23 (fun i => i = ub)).set (k := 9) (.inl rfl) (.slice na2 (k + 1) nc2))
                    have HO24 := Hid.mk'' (ownsRow_keptX HO2.out HK24.out (fun g e q => by have h1 := (World.ownsRow.lt HO2.out _ e).1; have : g = ub := q; omega))
                    have HB24 : Hid (Below w12.heap.size w12 (w23.setCell ⟨ub, 9, none⟩ (.slice na2 (k + 1) nc2))) := HB23.out.trans (HK24.out.below HB23.out.size (fun i q => by have h2 := HUs.out; have : i = ub := q; omega))
                    have HL24 := Hid.mk'' (Nat.lt_of_lt_of_le HL23.out HK24.out.size)
                    go_simp
                    refine hK.out _ _ HB24 (fun hHeld => ?_)
                    clear hK K c9 f9
                    refine wpAnyH_done (by kernel_rfl) ?_ _
                    go_wp2_with fail
                    go_roundw
                    case rel => exact ⟨k + 1, _, by omega, by go_num, HU24, HO24, HB24, HL24⟩
                    case measure => simp [intOf]; omega
                  · unfold RI.nls
                    go_simp
                    have hnls : r.nls p4 p6 = #[.int .u8 r.ty, .int .u8 (r.rd 0).toNat, .int .u8 (r.rd 1).toNat, .int .u8 (r.rd 2).toNat, .int .u8 (r.rd 3).toNat, .int .u8 (r.rd 4).toNat, .int .u8 (r.rd 5).toNat, .int .u8 (r.rd 6).toNat, .int .u8 (r.rd 7).toNat, .int .u8 (r.es 0).toNat, .int .u8 (r.es 1).toNat, .int .u8 (r.es 2).toNat, .int .u8 (r.es 3).toNat, .int .u8 (r.es 4).toNat, .int .u8 (r.es 5).toNat, .int .u8 (r.es 6).toNat, .int .u8 (r.es 7).toNat, .int .u8 (r.es 8).toNat, .int .u8 (r.es 9).toNat, .int .u32 r.tag, .int .u8 (r.mac 0).toNat, .int .u8 (r.mac 1).toNat, .int .u8 (r.mac 2).toNat, .int .u8 (r.mac 3).toNat, .int .u8 (r.mac 4).toNat, .int .u8 (r.mac 5).toNat, .int .u64 (aHi r.n r.ip : Nat), .int .u64 (aLo r.n r.ip : Nat), .pointer (aZ p4 p6 r.n), .int .u64 0, .int .u64 0, .pointer none, .int .u8 0, .int .u64 0, .int .u64 0, .pointer none, .int .u32 r.l1, .int .u32 r.l2, .bool r.h2, .bool false, .int .u8 0, .int .i64 0] := rfl
                    rw [← hnls]
                    obtain ⟨w22, hw22⟩ : ∃ w22, w22 = w21.alloc (.cells (r.nls p4 p6) 98) := ⟨_, rfl⟩
                    rw [← hw22]
                    have hb22 : Below w21.heap.size w21 w22 := by subst hw22; exact (Below.refl _ _).alloc (Nat.le_refl _) _
                    have HSrc : Hid (Src Tryf.prog 42 93 (.slice (some ⟨w21.heap.size, 0, none⟩) 1 1) 1 (r.nls p4 p6).toList w22) := by rw [hw22]; exact Src.nl _ r p4 p6
                    have HB22 : Hid (Below w12.heap.size w12 w22) := hHeld.out.trans (hb22.mono hHeld.out.size)
                    have HUn := Hid.mk'' (blk_on hb22 HUc.out)
                    have HOn := Hid.mk'' (ownsRow_keptX HOc.out (Kept.ofAll hb22 (fun _ => False)) (fun _ _ q => q))
                    have HLn := Hid.mk'' (Nat.lt_of_lt_of_le HLc.out hb22.size)
                    clear HUc HOc HLc
                    have HUc := HUn
                    have HOc := HOn
                    have HLc := HLn
                    clear HUn HOn HLn hb22 hHeld hw22 hnls
                    refine hK.out _ _ HB22 (fun hHeld => ?_)
                    clear hK K
                    try simp only [Act.put, List.setIfInBounds_toArray, List.set_cons_zero, List.set_cons_succ]
                    refine wpAnyH_ready (rs := [1]) (by kernel_rfl) (by simp) ?_
                    refine AllReadyH.cons (o := { dst := some 206, op := .load 93 (.tmp 205), type := 93, pos := _, after := #[{ on := 0, ground := .data }], guard := none }) rfl (fun K hK => ?_) AllReadyH.nil
                    have c9 : w22.cell? ⟨ub, 9, none⟩ = some nr := HUc.out.cell 9
                    go_simp
                    clear c9
                    refine hK.out _ _ hHeld (fun hHeld => ?_)
                    clear hK K
                    try simp only [Act.put, List.setIfInBounds_toArray, List.set_cons_zero, List.set_cons_succ]
                    refine wpAnyH_ready (rs := [9]) (by kernel_rfl) (by simp) ?_
                    refine AllReadyH.cons (o := { dst := some 214, op := .call { callee := .builtin .append, args := #[.tmp 206, .tmp 213], argTypes := #[93, 93] }, type := 93, pos := _, after := #[{ on := 1, ground := .data }, { on := 8, ground := .data }, { on := 6, ground := .chain }], guard := none }) rfl (fun K hK => ?_) AllReadyH.nil
                    refine wp_append_any _ (.tmp 206) (.tmp 213) 93 93 rfl (ub + 1) 98 i8 _ 42 144 Tryf.underlying93 h8i h8z0 h8z1 h8z2 rfl nr k (nlFlat (rs.take k) p4 p6) (by rfl) (by exact HOc.out) _ 1 (r.nls p4 p6).toList (by rfl) (by exact HSrc.out) (by unfold maxLen; omega) (by omega) (by have := HLc.out; omega) ?_
                    intro nr2 w23 hown hext _ _
                    have HO2 : Hid (w23.ownsRow (ub + 1) 98 42 nr2 (k + 1) (nlFlat (rs.take (k + 1)) p4 p6)) := by rw [Hid, nlFlat_take HR.out]; exact hown
                    have HU23 := Hid.mk'' (HUc.out.kept (Kept.ofExt hext) (fun e => by have := (World.ownsRow.lt HOc.out _ e).1; omega))
                    have HB23 : Hid (Below w12.heap.size w12 w23) := hext.below hHeld.out hHeld.out.size (fun g e => by have h1 := (World.ownsRow.lt HOc.out _ e).1; have h2 := HUs.out; omega)
                    have HL23 := Hid.mk'' (Nat.lt_of_lt_of_le HLc.out hext.size)
                    clear hown hext hHeld HUc HOc HLc
                    refine hK.out _ _ HB23 (fun hHeld => ?_)
                    clear hK K
                    try simp only [Act.put, List.setIfInBounds_toArray, List.set_cons_zero, List.set_cons_succ]
                    refine wpAnyH_take (i := 10) (oi := { dst := some 215, op := .fieldAddr 95 (.tmp 27) 1, type := 0, pos := _, after := #[{ on := 0, ground := .phase }, { on := 1, ground := .phase }, { on := 2, ground := .phase }, { on := 3, ground := .phase }, { on := 4, ground := .phase }, { on := 5, ground := .phase }, { on := 6, ground := .phase }, { on := 7, ground := .phase }, { on := 8, ground := .phase }, { on := 9, ground := .phase }], guard := none }) (v := .pointer (some ⟨ub, 9, none⟩)) rfl (by kernel_rfl) (by kernel_rfl) (by kernel_rfl) (fun _ _ _ h => h) (Or.inl ⟨by rfl, fun Y hSW => by go_simp⟩) (by assumption) ?_
                    try simp only [Act.put, List.setIfInBounds_toArray, List.set_cons_zero, List.set_cons_succ]
                    refine wpAnyH_ready (rs := [11]) (by kernel_rfl) (by simp) ?_
                    refine AllReadyH.cons (o := { dst := none, op := .store 93 (.tmp 215) (.tmp 214), type := 0, pos := _, after := #[{ on := 10, ground := .data }, { on := 9, ground := .data }, { on := 9, ground := .chain }, { on := 0, ground := .phase }, { on := 1, ground := .phase }, { on := 2, ground := .phase }, { on := 3, ground := .phase }, { on := 4, ground := .phase }, { on := 5, ground := .phase }, { on := 6, ground := .phase }, { on := 7, ground := .phase }, { on := 8, ground := .phase }, { on := 9, ground := .phase }], guard := none }) rfl (fun K hK => ?_) AllReadyH.nil
                    have c9 : w23.cell? ⟨ub, 9, none⟩ = some nr := HU23.out.cell 9
                    have f9 := HU23.out.frozen 9
                    obtain ⟨na2, nc2, hnr2⟩ : ∃ na nc, nr2 = Value.slice na (k + 1) nc := by
                      rcases HO2.out.2 with h | ⟨g, cap, cur, h, _⟩
                      · have := h.2; simp at this
                      · exact ⟨_, _, h⟩
                    subst hnr2
                    have HU24 : Hid (Blk (w23.setCell ⟨ub, 9, none⟩ (.slice na2 (k + 1) nc2)) ub 95 #[.int .u64 (aHi n o : Nat), .int .u64 (aLo n o : Nat), .pointer (aZ p4 p6 n), .slice none 0 0, .pointer (some ⟨tb, 0, none⟩), .int .u8 0, .slice none 0 0, .int .u32 0, .int .u32 0, .slice na2 (k + 1) nc2]) := HU23.out.set 9 _
                    have HK24 := Hid.mk'' ((Kept.refl w23 (fun i => i = ub)).set (k := 9) (.inl rfl) (.slice na2 (k + 1) nc2))
                    have HO24 := Hid.mk'' (ownsRow_keptX HO2.out HK24.out (fun g e q => by have h1 := (World.ownsRow.lt HO2.out _ e).1; have : g = ub := q; omega))
                    have HB24 : Hid (Below w12.heap.size w12 (w23.setCell ⟨ub, 9, none⟩ (.slice na2 (k + 1) nc2))) := HB23.out.trans (HK24.out.below HB23.out.size (fun i q => by have h2 := HUs.out; have : i = ub := q; omega))
                    have HL24 := Hid.mk'' (Nat.lt_of_lt_of_le HL23.out HK24.out.size)
                    go_simp
                    refine hK.out _ _ HB24 (fun hHeld => ?_)
                    clear hK K c9 f9
                    refine wpAnyH_done (by kernel_rfl) ?_ _
                    go_wp2_with fail
                    go_roundw
                    case rel => exact ⟨k + 1, _, by omega, by go_num, HU24, HO24, HB24, HL24⟩
                    case measure => simp [intOf]; omega
              · obtain rfl : N = k := by omega
                have HO2 : Hid (wr.ownsRow (ub + 1) 98 42 nr rs.length (nlFlat rs p4 p6)) := by have h := HO.out; rw [HN.out, List.take_length] at h; exact h
                obtain ⟨na, nc, hnr, hNV⟩ := nv_of HO2.out
                subst hnr
                have HNV := Hid.mk'' hNV
                clear hNV HO HO2
                have HBX := Hid.mk'' (HBW.out.trans (HBu.out.mono HBW.out.size))
                have HATu : Hid (AT wr ub n o p4 p6 none 0 cs (some ⟨tb, 0, none⟩) (some q)) := ⟨HU.out.cell 0, HU.out.cell 1, HU.out.cell 2, (by rw [← HM.out]; exact HU.out.cell 3), HU.out.cell 4, (HAT.out.cv.later HWA.out).later HBu.out, (HAT.out.tv.later HWA.out).later HBu.out⟩
                have H9 : Hid (wr.cell? ⟨ub, 9, none⟩ = some (.slice na L.length nc)) := by rw [Hid, HLN.out, HN.out]; exact HU.out.cell 9
                have HG13 := Hid.mk'' (HG12.out.later HBu.out)
                obtain ⟨mg, cg, hGe, -, hMg⟩ := HG13.out.hg.lview
                obtain ⟨ms, cs2, hSe, -, hMs⟩ := HG13.out.hs.lview
                have HMg := Hid.mk'' hMg
                have HMs := Hid.mk'' hMs
                clear hMg hMs HG13 HG12
                subst hGe hSe
                obtain ⟨e0, e1, e2⟩ : wr.cell? ⟨w.heap.size + 1, 0, none⟩ = some (.int .u32 la) ∧ wr.cell? ⟨w.heap.size + 1, 1, none⟩ = some (.int .u32 pa) ∧ wr.cell? ⟨w.heap.size + 1, 2, none⟩ = some (.bool a4) := ⟨(HIn.out wr HBX.out).b2.cell 0, (HIn.out wr HBX.out).b2.cell 1, (HIn.out wr HBX.out).b2.cell 2⟩
                have HMl : Hid (∀ j, (el (msOf n la pa a4 o cs (some q) L) j).length ≤ 2000000000) := ms_len HPE.out.fit
                go_wp2_with (first
                  | (go_at_call 21; refine (updmarshal_any ub n la pa a4 o p4 p6 none 0 cs (some ⟨tb, 0, none⟩) (some q) na nc rs L _ (HIn.out wr HBX.out).fl (HIn.out wr HBX.out).zs HATu.out HBd.out HL.out H9.out HNV.out (fun r hr => (HGd.out r hr).1) (by have := HLN.out; omega) HPE.out.fit).mono ?_; rintro e w20 ⟨ma, cm, rfl, hMV, hb20⟩; have HMV := Hid.mk'' hMV; have HMg2 := Hid.mk'' (HMg.out.all hb20); have HMs2 := Hid.mk'' (HMs.out.all hb20); have HB20 := Hid.mk'' (HBX.out.trans (hb20.mono HBX.out.size)); clear hMV hb20)
                  | fail)
                obtain ⟨Q, hQ⟩ : ∃ Q, Q = (msOf n la pa a4 o cs (some q) L) := ⟨_, rfl⟩
                rw [← hQ] at HMV HMg2 HMs2 HMl
                rw [← hQ]
                have j8 : (Q.length : Int) ≤ 5000 := by have h := ms_count n la pa a4 o cs (some q) L; rw [← hQ] at h; have := HLN.out; omega
                clear hQ
                go_loopw [30] (fun i wr => ∃ (k nq : Nat), k ≤ Q.length ∧ i = .int .i64 k ∧ wr = w20.drewN nq) (fun i _ => Q.length - (intOf i).toNat)
                case atStart => exact ⟨0, 0, Nat.zero_le _, rfl, rfl⟩
                case round =>
                  obtain ⟨k, nq, hk, rfl, rfl⟩ := hrel
                  by_cases hlt : k < Q.length
                  · obtain ⟨b1, f1, g1, c1, hm1, hc1, hV1⟩ := HMV.out k hlt
                    obtain ⟨b2, f2, g2, c2, hm2, hc2, hV2⟩ := HMg2.out k hlt
                    obtain ⟨b3, f3, g3, c3, hm3, hc3, hV3⟩ := HMs2.out k hlt
                    subst hm1 hm2 hm3
                    have HV1 : Hid (∀ nq, View (w20.drewN nq) (some ⟨g1, 0, none⟩) (bc (el Q k))) := fun nq => hV1.drewN nq
                    have HV2 : Hid (∀ nq, View (w20.drewN nq) (some ⟨g2, 0, none⟩) (bc (el Q k))) := fun nq => hV2.drewN nq
                    have HV3 : Hid (∀ nq, View (w20.drewN nq) (some ⟨g3, 0, none⟩) (bc (el Q k))) := fun nq => hV3.drewN nq
                    have HLl : Hid ((el Q k).length ≤ 2000000000) := HMl.out k
                    have i1 : (0 : Int) ≤ (k : Int) := by omega
                    have i2 : (k : Int) < (Q.length : Int) := by omega
                    clear hV1 hV2 hV3
                    go_upto_region 57 with fail
                    go_region_held3 (fun w' => w'.cell? ⟨b1, f1 + k, none⟩ = some (.slice (some ⟨g1, 0, none⟩) (el Q k).length c1) ∧ w'.cell? ⟨b2, f2 + k, none⟩ = some (.slice (some ⟨g2, 0, none⟩) (el Q k).length c2) ∧ w'.cell? ⟨b3, f3 + k, none⟩ = some (.slice (some ⟨g3, 0, none⟩) (el Q k).length c3)) ((first | go_keep | exact ⟨hc1, hc2, hc3⟩)) ((first
                      | (go_at_call 22; have _tok := HE1; refine (equal_any _ _ _ _ (el Q k) _ HLl.out (by exact HV2.out _) (by exact HV3.out _)).mono ?_; rintro e w22 ⟨rfl, nq2, hq2⟩; subst hq2)
                      | (go_at_call 22; refine (equal_any _ _ _ _ (el Q k) _ HLl.out (by exact HV1.out _) (by exact HV2.out _)).mono ?_; rintro e w21 ⟨rfl, nq1, hq1⟩; subst hq1; have HE1 := Hid.mk'' True.intro)
                      | fail))
                    go_wp2_with fail
                    go_roundw
                    case rel => exact ⟨k + 1, _, by omega, by go_num, rfl⟩
                    case measure => simp [intOf]; omega
                  · go_wp2_with fail
                    go_ret
                    exact ⟨rfl, HXw.out.trans ((below_drewN HB20.out nq).mono HXw.out.size)⟩

end Go.Proofs.Qxb6003713aFmt
