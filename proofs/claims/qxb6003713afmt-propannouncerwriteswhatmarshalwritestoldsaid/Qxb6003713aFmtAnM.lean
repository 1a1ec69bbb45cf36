import Derived.Test.Qxb6003713aFmtAnL
namespace Go.Proofs.Qxb6003713aFmt
open Go.RowKit
set_option linter.unusedVariables false
set_option linter.unusedSimpArgs false

set_option maxRecDepth 100000 in
set_option maxHeartbeats 4000000 in
theorem path_i00 (ab la pa : Nat) (a4 : Bool) (ea : Option Addr) (ec : Nat) (cs : List (Nat → UInt8)) (tp : Option Addr) (pm : Option PI) (w : World) (hF : Fl w) (hla : la < 4294967296)
    (h3 : w.cell? ⟨ab, 3, none⟩ = some (.slice ea cs.length ec)) (h4 : w.cell? ⟨ab, 4, none⟩ = some (.pointer tp)) (hCV : CV w ea cs) (hTV : TV w tp pm) (hcs : cs.length ≤ 4096) (hpm : ∀ q, pm = some q → q.fl < 256 ∧ q.tt < 256 ∧ q.lb < 4294967296 ∧ q.tid.length ≤ 4096)
    (hw : la = pa) (hc : cs.length = 0) (hp : pm = none) :
    Calls Tryf.prog 52 #[.pointer (some ⟨ab, 0, none⟩), .slice none 0 0, .agg #[.int .u32 la, .int .u32 pa, .bool a4]] w fun e w' => ∃ v', e = .returned v' ∧ OB 5 w.heap.size w' v' (avOf la pa a4 cs pm) ∧ Below w.heap.size w w' := by
  obtain ⟨i0, hi, hz0, hz1, hz2⟩ := info_parts Tryf.info5
  have HA := Hid.mk'' hla
  have HC := Hid.mk'' hcs
  subst hw
  subst hp
  obtain rfl : tp = none := hTV
  clear hpm
  have HRes : Hid (([] ++ attr (flagOf 1) (1 : Nat) [0] ++ attr (flagOf 2) (2 : Nat) [] ++ attr (flagOf 5) (5 : Nat) (b4 100)) = avOf la la a4 cs none) := by
    have e1 : pathOct la la a4 = [] := by unfold pathOct; rw [if_pos rfl]
    have e2 : p4Attr la la a4 = [] := by unfold p4Attr; rw [if_pos rfl]
    have e3 : coAttr cs = [] := by unfold coAttr; rw [if_pos hc]
    have e4 : pmAttr none = [] := rfl
    unfold avOf wkOct
    rw [e1, e2, e3, e4, if_pos rfl]
    show _ = _
    simp only [List.nil_append, List.append_nil, List.append_assoc]
    rfl
  obtain ⟨X, hX⟩ : ∃ X, X = (w.alloc (.cells #[.int .u32 la, .int .u32 la, .bool a4] 44)) := ⟨_, rfl⟩
  have HXw : Hid (Below w.heap.size w X) := by rw [hX]; exact (Below.refl _ _).alloc (Nat.le_refl _) _
  have HXs : Hid (w.heap.size < X.heap.size) := by rw [hX]; simp [Hid]
  have HF : Hid (Fl X) := hF.later HXw.out
  have SX : Hid (∀ W, Below X.heap.size X W → W.cell? ⟨ab, 3, none⟩ = some (.slice ea cs.length ec) ∧ W.cell? ⟨ab, 4, none⟩ = some (.pointer none)) := fun W hb => ⟨cell_later hb (cell_later HXw.out h3), cell_later hb (cell_later HXw.out h4)⟩
  have SB : Hid (∀ W, Below X.heap.size X W → W.cell? ⟨w.heap.size, 0, none⟩ = some (.int .u32 la) ∧ W.cell? ⟨w.heap.size, 1, none⟩ = some (.int .u32 la) ∧ W.cell? ⟨w.heap.size, 2, none⟩ = some (.bool a4)) := fun W hb => by
    subst hX
    have h := blk_on hb (Blk.new w 44 #[.int .u32 la, .int .u32 la, .bool a4])
    exact ⟨h.cell 0, h.cell 1, h.cell 2⟩
  have HCV : Hid (∀ W, Below X.heap.size X W → CV W ea cs) := fun W hb => (hCV.later HXw.out).later hb
  obtain ⟨m, hm⟩ : ∃ m, m = cs.length := ⟨_, rfl⟩
  have HM : Hid (m = cs.length) := hm
  have j1 : (m : Int) ≤ 4096 := by omega
  have j2 : m = 0 := by omega
  subst j2
  rw [← hm] at h3 SX
  clear hF hla hcs h3 h4 hCV hc hm
  go_enter Tryf.func52, Tryf.ntmps52
  go_upto_region 1 with fail
  rw [← hX]
  clear hX
  have HR0 : Hid (Rw X X (.slice none 0 0) []) := ⟨OB.nil _ _ _, Below.refl _ _⟩
  have HLn0 : Hid (([] : List UInt8).length ≤ 0) := Nat.le_refl _
  go_wp2_with (first
    | (go_at_call 57; have _tok := HR5; refine (attr_rw X 5 _ (([] : List UInt8) ++ attr (flagOf 1) (1 : Nat) ([0]) ++ attr (flagOf 2) (2 : Nat) (([] : List UInt8))) (some ⟨g5, 0, none⟩) 4 q5 (b4 100) _ HF.out (by exact HR5.out) (by decide) (by first | rfl | exact HVL) (Nat.le_trans HLn3.out (by decide)) (Nat.le_trans (m := 4) (by simp [b4]) (by decide)) (by exact HV5_5.out) (fun h => by cases h) (fun k o h e => by cases h; exact HN5_5.out e)).mono ?_; rintro e w6 ⟨v6, rfl, hR, hE⟩; have HR6 := Hid.mk'' hR; have HLn6 : Hid ((([] : List UInt8) ++ attr (flagOf 1) (1 : Nat) ([0]) ++ attr (flagOf 2) (2 : Nat) (([] : List UInt8)) ++ attr (flagOf 5) (5 : Nat) (b4 100)).length ≤ 15 + (4 + 4)) := len_app HLn3.out (attr_le _ _ _ 4 (by simp [b4])); clear hR hE; obtain ⟨b0, b1, b2⟩ := SB.out _ HR6.out.below; obtain ⟨a3, a4c⟩ := SX.out _ HR6.out.below; have hs6 : w.heap.size < w6.heap.size := (Nat.lt_of_lt_of_le HXs.out HR6.out.below.size); have ht6 : ¬ w.heap.size = w6.heap.size := Nat.ne_of_lt hs6)
    | (go_at_call 53; have _tok := HR4; refine (app32_any 100 w4.heap.size _ [] _ (by decide) (by exact OB.nil _ _ _) (by simp) (by simp)).mono ?_; rintro e w5 ⟨x5, rfl, hO, hE, -⟩; have hb : Below w4.heap.size w4 w5 := (hE.below (Below.refl _ _) (Nat.le_refl _) (fun k h => by cases h)); have HR5 := Hid.mk'' (HR4.out.later hb); obtain ⟨g5, q5, hx, hge, hlt, -, -⟩ : ∃ g q, x5 = .slice (some ⟨g, 0, none⟩) 4 q ∧ w4.heap.size ≤ g ∧ g < w5.heap.size ∧ True ∧ True := (by rcases hO.form with h | ⟨g, c, h, h1, h2, _⟩; (exact absurd h.2 (by simp [b4, be16])); exact ⟨g, c, h, h1, h2, trivial, trivial⟩); subst hx; have HV5_5 : Hid (View w5 (some ⟨g5, 0, none⟩) (bc (b4 100))) := view_row hO; have HN5_5 : Hid (v3.ownBlock ≠ some g5) := (fun e => by have := (HR4.out.row.lt _ e).2; omega); clear hO hE hb hge hlt; obtain ⟨b0, b1, b2⟩ := SB.out _ HR5.out.below; obtain ⟨a3, a4c⟩ := SX.out _ HR5.out.below; have hs5 : w.heap.size < w5.heap.size := (Nat.lt_of_lt_of_le HXs.out HR5.out.below.size); have ht5 : ¬ w.heap.size = w5.heap.size := Nat.ne_of_lt hs5)
    | (go_at_call 61; have _tok := HR3; refine (internal_any la la a4 true _ (by first | exact decide_eq_true rfl | exact HWd.out)).mono ?_; rintro e w4 ⟨rfl, hb⟩; have HR4 := Hid.mk'' (HR3.out.later hb); clear hb; obtain ⟨b0, b1, b2⟩ := SB.out _ HR4.out.below; obtain ⟨a3, a4c⟩ := SX.out _ HR4.out.below; have hs4 : w.heap.size < w4.heap.size := (Nat.lt_of_lt_of_le HXs.out HR4.out.below.size); have ht4 : ¬ w.heap.size = w4.heap.size := Nat.ne_of_lt hs4)
    | (go_at_call 57; have _tok := HR2; refine (attr_rw X 2 _ (([] : List UInt8) ++ attr (flagOf 1) (1 : Nat) ([0])) none 0 0 (([] : List UInt8)) _ HF.out (by exact HR2.out) (by decide) (by first | rfl | exact HVL) (Nat.le_trans HLn1.out (by decide)) (Nat.le_trans (m := 6) (by simp [b4, be16]) (by decide)) (by exact View.nil _ _) (fun _ => rfl) (fun k o h => by cases h)).mono ?_; rintro e w3 ⟨v3, rfl, hR, hE⟩; have HR3 := Hid.mk'' hR; have HLn3 : Hid ((([] : List UInt8) ++ attr (flagOf 1) (1 : Nat) ([0]) ++ attr (flagOf 2) (2 : Nat) (([] : List UInt8))).length ≤ 5 + (6 + 4)) := len_app HLn1.out (attr_le _ _ _ 6 (by simp [b4, be16])); clear hR hE; obtain ⟨b0, b1, b2⟩ := SB.out _ HR3.out.below; obtain ⟨a3, a4c⟩ := SX.out _ HR3.out.below; have hs3 : w.heap.size < w3.heap.size := (Nat.lt_of_lt_of_le HXs.out HR3.out.below.size); have ht3 : ¬ w.heap.size = w3.heap.size := Nat.ne_of_lt hs3)
    | (go_at_call 61; have _tok := HR1; refine (internal_any la la a4 true _ (by first | exact decide_eq_true rfl | exact HWd.out)).mono ?_; rintro e w2 ⟨rfl, hb⟩; have HR2 := Hid.mk'' (HR1.out.later hb); clear hb; obtain ⟨b0, b1, b2⟩ := SB.out _ HR2.out.below; obtain ⟨a3, a4c⟩ := SX.out _ HR2.out.below; have hs2 : w.heap.size < w2.heap.size := (Nat.lt_of_lt_of_le HXs.out HR2.out.below.size); have ht2 : ¬ w.heap.size = w2.heap.size := Nat.ne_of_lt hs2)
    | (go_at_call 57; have _tok := HR0; refine (attr_rw X 1 _ (([] : List UInt8)) (some ⟨X.heap.size, 0, none⟩) 1 1 ([0]) _ HF.out (by exact HR0.out.alloc _) (by decide) (by first | rfl | exact HVL) (Nat.le_trans HLn0.out (by decide)) (Nat.le_trans (m := 1) (by simp) (by decide)) (by exact lit_view _ [0] _ _ rfl rfl) (fun h => by cases h) (fun k o _ h => by cases h)).mono ?_; rintro e w1 ⟨v1, rfl, hR, hE⟩; have HR1 := Hid.mk'' hR; have HLn1 : Hid ((([] : List UInt8) ++ attr (flagOf 1) (1 : Nat) ([0])).length ≤ 0 + (1 + 4)) := len_app HLn0.out (attr_le _ _ _ 1 (by simp)); clear hR hE; obtain ⟨b0, b1, b2⟩ := SB.out _ HR1.out.below; obtain ⟨a3, a4c⟩ := SX.out _ HR1.out.below; have hs1 : w.heap.size < w1.heap.size := (Nat.lt_of_lt_of_le HXs.out HR1.out.below.size); have ht1 : ¬ w.heap.size = w1.heap.size := Nat.ne_of_lt hs1)
    | fail)
  go_ret
  refine ⟨_, rfl, ?_, HXw.out.trans (HR6.out.below.mono HXw.out.size)⟩
  have e := HRes.out
  rw [← e]
  exact HR6.out.row.base (fun k h => Nat.le_trans HXw.out.size (HR6.out.row.lt k h).1)

set_option maxRecDepth 100000 in
set_option maxHeartbeats 4000000 in
theorem path_i01 (ab la pa : Nat) (a4 : Bool) (ea : Option Addr) (ec : Nat) (cs : List (Nat → UInt8)) (tp : Option Addr) (pm : Option PI) (w : World) (hF : Fl w) (hla : la < 4294967296)
    (h3 : w.cell? ⟨ab, 3, none⟩ = some (.slice ea cs.length ec)) (h4 : w.cell? ⟨ab, 4, none⟩ = some (.pointer tp)) (hCV : CV w ea cs) (hTV : TV w tp pm) (hcs : cs.length ≤ 4096) (hpm : ∀ q, pm = some q → q.fl < 256 ∧ q.tt < 256 ∧ q.lb < 4294967296 ∧ q.tid.length ≤ 4096)
    (hw : la = pa) (hc : cs.length = 0) (hp : pm ≠ none) :
    Calls Tryf.prog 52 #[.pointer (some ⟨ab, 0, none⟩), .slice none 0 0, .agg #[.int .u32 la, .int .u32 pa, .bool a4]] w fun e w' => ∃ v', e = .returned v' ∧ OB 5 w.heap.size w' v' (avOf la pa a4 cs pm) ∧ Below w.heap.size w w' := by
  obtain ⟨i0, hi, hz0, hz1, hz2⟩ := info_parts Tryf.info5
  have HA := Hid.mk'' hla
  have HC := Hid.mk'' hcs
  subst hw
  obtain ⟨q, rfl⟩ : ∃ q, pm = some q := by cases pm with | none => exact absurd rfl hp | some q => exact ⟨q, rfl⟩
  obtain ⟨tb, ta, tc, rfl, hT, hTv, hTn⟩ := hTV
  have HT := Hid.mk'' hT
  have HTv := Hid.mk'' hTv
  have HTn := Hid.mk'' hTn
  have HQ := Hid.mk'' (hpm q rfl)
  clear hT hTv hTn hpm hp
  have HRes : Hid (([] ++ attr (flagOf 1) (1 : Nat) [0] ++ attr (flagOf 2) (2 : Nat) [] ++ attr (flagOf 5) (5 : Nat) (b4 100)) ++ attr (flagOf 22) (22 : Nat) (pmOct q) = avOf la la a4 cs (some q)) := by
    have e1 : pathOct la la a4 = [] := by unfold pathOct; rw [if_pos rfl]
    have e2 : p4Attr la la a4 = [] := by unfold p4Attr; rw [if_pos rfl]
    have e3 : coAttr cs = [] := by unfold coAttr; rw [if_pos hc]
    have e4 : pmAttr (some q) = attr (flagOf 22) 22 (pmOct q) := rfl
    unfold avOf wkOct
    rw [e1, e2, e3, e4, if_pos rfl]
    show _ = _
    simp only [List.nil_append, List.append_nil, List.append_assoc]
    rfl
  obtain ⟨X, hX⟩ : ∃ X, X = (w.alloc (.cells #[.int .u32 la, .int .u32 la, .bool a4] 44)) := ⟨_, rfl⟩
  have HXw : Hid (Below w.heap.size w X) := by rw [hX]; exact (Below.refl _ _).alloc (Nat.le_refl _) _
  have HXs : Hid (w.heap.size < X.heap.size) := by rw [hX]; simp [Hid]
  have HF : Hid (Fl X) := hF.later HXw.out
  have SX : Hid (∀ W, Below X.heap.size X W → W.cell? ⟨ab, 3, none⟩ = some (.slice ea cs.length ec) ∧ W.cell? ⟨ab, 4, none⟩ = some (.pointer (some ⟨tb, 0, none⟩))) := fun W hb => ⟨cell_later hb (cell_later HXw.out h3), cell_later hb (cell_later HXw.out h4)⟩
  have SB : Hid (∀ W, Below X.heap.size X W → W.cell? ⟨w.heap.size, 0, none⟩ = some (.int .u32 la) ∧ W.cell? ⟨w.heap.size, 1, none⟩ = some (.int .u32 la) ∧ W.cell? ⟨w.heap.size, 2, none⟩ = some (.bool a4)) := fun W hb => by
    subst hX
    have h := blk_on hb (Blk.new w 44 #[.int .u32 la, .int .u32 la, .bool a4])
    exact ⟨h.cell 0, h.cell 1, h.cell 2⟩
  have HCV : Hid (∀ W, Below X.heap.size X W → CV W ea cs) := fun W hb => (hCV.later HXw.out).later hb
  obtain ⟨m, hm⟩ : ∃ m, m = cs.length := ⟨_, rfl⟩
  have HM : Hid (m = cs.length) := hm
  have j1 : (m : Int) ≤ 4096 := by omega
  have j2 : m = 0 := by omega
  subst j2
  rw [← hm] at h3 SX
  clear hF hla hcs h3 h4 hCV hc hm
  go_enter Tryf.func52, Tryf.ntmps52
  go_upto_region 1 with fail
  rw [← hX]
  clear hX
  have HR0 : Hid (Rw X X (.slice none 0 0) []) := ⟨OB.nil _ _ _, Below.refl _ _⟩
  have HLn0 : Hid (([] : List UInt8).length ≤ 0) := Nat.le_refl _
  go_wp2_with (first
    | (go_at_call 57; have _tok := HR7; refine (attr_rw X 22 _ (([] : List UInt8) ++ attr (flagOf 1) (1 : Nat) ([0]) ++ attr (flagOf 2) (2 : Nat) (([] : List UInt8)) ++ attr (flagOf 5) (5 : Nat) (b4 100)) (some ⟨g22, 0, none⟩) (pmOct q).length q22 (pmOct q) _ HF.out (by exact HR7.out) (by decide) (by first | rfl | exact HVL) (Nat.le_trans HLn6.out (by decide)) (Nat.le_trans (m := 4101) (by have := HQ.out.2.2.2; simp [pmOct, b3]; omega) (by decide)) (by exact HV22.out) (fun h => by cases h) (fun k o h e => by cases h; exact HN22.out e)).mono ?_; rintro e w8 ⟨v8, rfl, hR, hE⟩; have HR8 := Hid.mk'' hR; have HLn8 : Hid ((([] : List UInt8) ++ attr (flagOf 1) (1 : Nat) ([0]) ++ attr (flagOf 2) (2 : Nat) (([] : List UInt8)) ++ attr (flagOf 5) (5 : Nat) (b4 100) ++ attr (flagOf 22) (22 : Nat) (pmOct q)).length ≤ 23 + (4101 + 4)) := len_app HLn6.out (attr_le _ _ _ 4101 (by have := HQ.out.2.2.2; simp [pmOct, b3]; omega)); clear hR hE; obtain ⟨b0, b1, b2⟩ := SB.out _ HR8.out.below; obtain ⟨a3, a4c⟩ := SX.out _ HR8.out.below; have hs8 : w.heap.size < w8.heap.size := (Nat.lt_of_lt_of_le HXs.out HR8.out.below.size); have ht8 : ¬ w.heap.size = w8.heap.size := Nat.ne_of_lt hs8)
    | (go_at_call 62; have _tok := HR6; refine (pmsi_any tb q ta tc _ (by exact blk_on (HR6.out.below) (blk_on HXw.out HT.out)) (by exact (HTv.out.all HXw.out).all HR6.out.below) HTn.out HQ.out.1 HQ.out.2.1 HQ.out.2.2.1 (by have := HQ.out.2.2.2; omega)).mono ?_; rintro e w7 ⟨x7, rfl, hO, hb⟩; have HR7 := Hid.mk'' (HR6.out.later hb); obtain ⟨g22, q22, hx, hge⟩ : ∃ g q22, x7 = .slice (some ⟨g, 0, none⟩) (pmOct q).length q22 ∧ w6.heap.size ≤ g := (by rcases hO.form with h | ⟨g, c, h, h1, h2, _⟩; (exact absurd h.2 (by simp [pmOct])); exact ⟨g, c, h, h1⟩); subst hx; have HV22 : Hid (View w7 (some ⟨g22, 0, none⟩) (bc (pmOct q))) := view_row hO; have HN22 : Hid (v6.ownBlock ≠ some g22) := (fun e => by have := (HR6.out.row.lt _ e).2; omega); clear hO hb hge; obtain ⟨b0, b1, b2⟩ := SB.out _ HR7.out.below; obtain ⟨a3, a4c⟩ := SX.out _ HR7.out.below; have hs7 : w.heap.size < w7.heap.size := (Nat.lt_of_lt_of_le HXs.out HR7.out.below.size); have ht7 : ¬ w.heap.size = w7.heap.size := Nat.ne_of_lt hs7)
    | (go_at_call 57; have _tok := HR5; refine (attr_rw X 5 _ (([] : List UInt8) ++ attr (flagOf 1) (1 : Nat) ([0]) ++ attr (flagOf 2) (2 : Nat) (([] : List UInt8))) (some ⟨g5, 0, none⟩) 4 q5 (b4 100) _ HF.out (by exact HR5.out) (by decide) (by first | rfl | exact HVL) (Nat.le_trans HLn3.out (by decide)) (Nat.le_trans (m := 4) (by simp [b4]) (by decide)) (by exact HV5_5.out) (fun h => by cases h) (fun k o h e => by cases h; exact HN5_5.out e)).mono ?_; rintro e w6 ⟨v6, rfl, hR, hE⟩; have HR6 := Hid.mk'' hR; have HLn6 : Hid ((([] : List UInt8) ++ attr (flagOf 1) (1 : Nat) ([0]) ++ attr (flagOf 2) (2 : Nat) (([] : List UInt8)) ++ attr (flagOf 5) (5 : Nat) (b4 100)).length ≤ 15 + (4 + 4)) := len_app HLn3.out (attr_le _ _ _ 4 (by simp [b4])); clear hR hE; obtain ⟨b0, b1, b2⟩ := SB.out _ HR6.out.below; obtain ⟨a3, a4c⟩ := SX.out _ HR6.out.below; have hs6 : w.heap.size < w6.heap.size := (Nat.lt_of_lt_of_le HXs.out HR6.out.below.size); have ht6 : ¬ w.heap.size = w6.heap.size := Nat.ne_of_lt hs6)
    | (go_at_call 53; have _tok := HR4; refine (app32_any 100 w4.heap.size _ [] _ (by decide) (by exact OB.nil _ _ _) (by simp) (by simp)).mono ?_; rintro e w5 ⟨x5, rfl, hO, hE, -⟩; have hb : Below w4.heap.size w4 w5 := (hE.below (Below.refl _ _) (Nat.le_refl _) (fun k h => by cases h)); have HR5 := Hid.mk'' (HR4.out.later hb); obtain ⟨g5, q5, hx, hge, hlt, -, -⟩ : ∃ g q, x5 = .slice (some ⟨g, 0, none⟩) 4 q ∧ w4.heap.size ≤ g ∧ g < w5.heap.size ∧ True ∧ True := (by rcases hO.form with h | ⟨g, c, h, h1, h2, _⟩; (exact absurd h.2 (by simp [b4, be16])); exact ⟨g, c, h, h1, h2, trivial, trivial⟩); subst hx; have HV5_5 : Hid (View w5 (some ⟨g5, 0, none⟩) (bc (b4 100))) := view_row hO; have HN5_5 : Hid (v3.ownBlock ≠ some g5) := (fun e => by have := (HR4.out.row.lt _ e).2; omega); clear hO hE hb hge hlt; obtain ⟨b0, b1, b2⟩ := SB.out _ HR5.out.below; obtain ⟨a3, a4c⟩ := SX.out _ HR5.out.below; have hs5 : w.heap.size < w5.heap.size := (Nat.lt_of_lt_of_le HXs.out HR5.out.below.size); have ht5 : ¬ w.heap.size = w5.heap.size := Nat.ne_of_lt hs5)
    | (go_at_call 61; have _tok := HR3; refine (internal_any la la a4 true _ (by first | exact decide_eq_true rfl | exact HWd.out)).mono ?_; rintro e w4 ⟨rfl, hb⟩; have HR4 := Hid.mk'' (HR3.out.later hb); clear hb; obtain ⟨b0, b1, b2⟩ := SB.out _ HR4.out.below; obtain ⟨a3, a4c⟩ := SX.out _ HR4.out.below; have hs4 : w.heap.size < w4.heap.size := (Nat.lt_of_lt_of_le HXs.out HR4.out.below.size); have ht4 : ¬ w.heap.size = w4.heap.size := Nat.ne_of_lt hs4)
    | (go_at_call 57; have _tok := HR2; refine (attr_rw X 2 _ (([] : List UInt8) ++ attr (flagOf 1) (1 : Nat) ([0])) none 0 0 (([] : List UInt8)) _ HF.out (by exact HR2.out) (by decide) (by first | rfl | exact HVL) (Nat.le_trans HLn1.out (by decide)) (Nat.le_trans (m := 6) (by simp [b4, be16]) (by decide)) (by exact View.nil _ _) (fun _ => rfl) (fun k o h => by cases h)).mono ?_; rintro e w3 ⟨v3, rfl, hR, hE⟩; have HR3 := Hid.mk'' hR; have HLn3 : Hid ((([] : List UInt8) ++ attr (flagOf 1) (1 : Nat) ([0]) ++ attr (flagOf 2) (2 : Nat) (([] : List UInt8))).length ≤ 5 + (6 + 4)) := len_app HLn1.out (attr_le _ _ _ 6 (by simp [b4, be16])); clear hR hE; obtain ⟨b0, b1, b2⟩ := SB.out _ HR3.out.below; obtain ⟨a3, a4c⟩ := SX.out _ HR3.out.below; have hs3 : w.heap.size < w3.heap.size := (Nat.lt_of_lt_of_le HXs.out HR3.out.below.size); have ht3 : ¬ w.heap.size = w3.heap.size := Nat.ne_of_lt hs3)
    | (go_at_call 61; have _tok := HR1; refine (internal_any la la a4 true _ (by first | exact decide_eq_true rfl | exact HWd.out)).mono ?_; rintro e w2 ⟨rfl, hb⟩; have HR2 := Hid.mk'' (HR1.out.later hb); clear hb; obtain ⟨b0, b1, b2⟩ := SB.out _ HR2.out.below; obtain ⟨a3, a4c⟩ := SX.out _ HR2.out.below; have hs2 : w.heap.size < w2.heap.size := (Nat.lt_of_lt_of_le HXs.out HR2.out.below.size); have ht2 : ¬ w.heap.size = w2.heap.size := Nat.ne_of_lt hs2)
    | (go_at_call 57; have _tok := HR0; refine (attr_rw X 1 _ (([] : List UInt8)) (some ⟨X.heap.size, 0, none⟩) 1 1 ([0]) _ HF.out (by exact HR0.out.alloc _) (by decide) (by first | rfl | exact HVL) (Nat.le_trans HLn0.out (by decide)) (Nat.le_trans (m := 1) (by simp) (by decide)) (by exact lit_view _ [0] _ _ rfl rfl) (fun h => by cases h) (fun k o _ h => by cases h)).mono ?_; rintro e w1 ⟨v1, rfl, hR, hE⟩; have HR1 := Hid.mk'' hR; have HLn1 : Hid ((([] : List UInt8) ++ attr (flagOf 1) (1 : Nat) ([0])).length ≤ 0 + (1 + 4)) := len_app HLn0.out (attr_le _ _ _ 1 (by simp)); clear hR hE; obtain ⟨b0, b1, b2⟩ := SB.out _ HR1.out.below; obtain ⟨a3, a4c⟩ := SX.out _ HR1.out.below; have hs1 : w.heap.size < w1.heap.size := (Nat.lt_of_lt_of_le HXs.out HR1.out.below.size); have ht1 : ¬ w.heap.size = w1.heap.size := Nat.ne_of_lt hs1)
    | fail)
  go_ret
  refine ⟨_, rfl, ?_, HXw.out.trans (HR8.out.below.mono HXw.out.size)⟩
  have e := HRes.out
  rw [← e]
  exact HR8.out.row.base (fun k h => Nat.le_trans HXw.out.size (HR8.out.row.lt k h).1)

set_option maxRecDepth 100000 in
set_option maxHeartbeats 4000000 in
theorem path_i10 (ab la pa : Nat) (a4 : Bool) (ea : Option Addr) (ec : Nat) (cs : List (Nat → UInt8)) (tp : Option Addr) (pm : Option PI) (w : World) (hF : Fl w) (hla : la < 4294967296)
    (h3 : w.cell? ⟨ab, 3, none⟩ = some (.slice ea cs.length ec)) (h4 : w.cell? ⟨ab, 4, none⟩ = some (.pointer tp)) (hCV : CV w ea cs) (hTV : TV w tp pm) (hcs : cs.length ≤ 4096) (hpm : ∀ q, pm = some q → q.fl < 256 ∧ q.tt < 256 ∧ q.lb < 4294967296 ∧ q.tid.length ≤ 4096)
    (hw : la = pa) (hc : ¬ cs.length = 0) (hp : pm = none) :
    Calls Tryf.prog 52 #[.pointer (some ⟨ab, 0, none⟩), .slice none 0 0, .agg #[.int .u32 la, .int .u32 pa, .bool a4]] w fun e w' => ∃ v', e = .returned v' ∧ OB 5 w.heap.size w' v' (avOf la pa a4 cs pm) ∧ Below w.heap.size w w' := by
  obtain ⟨i0, hi, hz0, hz1, hz2⟩ := info_parts Tryf.info5
  have HA := Hid.mk'' hla
  have HC := Hid.mk'' hcs
  subst hw
  subst hp
  obtain rfl : tp = none := hTV
  clear hpm
  obtain ⟨eb, eo, rfl⟩ : ∃ eb eo, ea = some ⟨eb, eo, none⟩ := by
    rcases hCV with h | ⟨eb, eo, h, _⟩
    · exact absurd (by rw [h]; rfl) hc
    · exact ⟨eb, eo, h⟩
  have HRes : Hid (([] ++ attr (flagOf 1) (1 : Nat) [0] ++ attr (flagOf 2) (2 : Nat) [] ++ attr (flagOf 5) (5 : Nat) (b4 100)) ++ attr (flagOf 16) (16 : Nat) (coOct cs) = avOf la la a4 cs none) := by
    have e1 : pathOct la la a4 = [] := by unfold pathOct; rw [if_pos rfl]
    have e2 : p4Attr la la a4 = [] := by unfold p4Attr; rw [if_pos rfl]
    have e3 : coAttr cs = attr (flagOf 16) 16 (coOct cs) := by unfold coAttr; rw [if_neg hc]
    have e4 : pmAttr none = [] := rfl
    unfold avOf wkOct
    rw [e1, e2, e3, e4, if_pos rfl]
    show _ = _
    simp only [List.nil_append, List.append_nil, List.append_assoc]
    rfl
  obtain ⟨X, hX⟩ : ∃ X, X = (w.alloc (.cells #[.int .u32 la, .int .u32 la, .bool a4] 44)) := ⟨_, rfl⟩
  have HXw : Hid (Below w.heap.size w X) := by rw [hX]; exact (Below.refl _ _).alloc (Nat.le_refl _) _
  have HXs : Hid (w.heap.size < X.heap.size) := by rw [hX]; simp [Hid]
  have HF : Hid (Fl X) := hF.later HXw.out
  have SX : Hid (∀ W, Below X.heap.size X W → W.cell? ⟨ab, 3, none⟩ = some (.slice (some ⟨eb, eo, none⟩) cs.length ec) ∧ W.cell? ⟨ab, 4, none⟩ = some (.pointer none)) := fun W hb => ⟨cell_later hb (cell_later HXw.out h3), cell_later hb (cell_later HXw.out h4)⟩
  have SB : Hid (∀ W, Below X.heap.size X W → W.cell? ⟨w.heap.size, 0, none⟩ = some (.int .u32 la) ∧ W.cell? ⟨w.heap.size, 1, none⟩ = some (.int .u32 la) ∧ W.cell? ⟨w.heap.size, 2, none⟩ = some (.bool a4)) := fun W hb => by
    subst hX
    have h := blk_on hb (Blk.new w 44 #[.int .u32 la, .int .u32 la, .bool a4])
    exact ⟨h.cell 0, h.cell 1, h.cell 2⟩
  have HCV : Hid (∀ W, Below X.heap.size X W → CV W (some ⟨eb, eo, none⟩) cs) := fun W hb => (hCV.later HXw.out).later hb
  obtain ⟨m, hm⟩ : ∃ m, m = cs.length := ⟨_, rfl⟩
  have HM : Hid (m = cs.length) := hm
  have j1 : (m : Int) ≤ 4096 := by omega
  have j2 : (0 : Int) < (m : Int) := by omega
  have j3 : 0 < m := by omega
  rw [← hm] at h3 SX
  clear hF hla hcs h3 h4 hCV hc hm
  go_enter Tryf.func52, Tryf.ntmps52
  go_upto_region 1 with fail
  rw [← hX]
  clear hX
  have HR0 : Hid (Rw X X (.slice none 0 0) []) := ⟨OB.nil _ _ _, Below.refl _ _⟩
  have HLn0 : Hid (([] : List UInt8).length ≤ 0) := Nat.le_refl _
  go_wp2_with (first
    | (go_at_call 57; have _tok := HR5; refine (attr_rw X 5 _ (([] : List UInt8) ++ attr (flagOf 1) (1 : Nat) ([0]) ++ attr (flagOf 2) (2 : Nat) (([] : List UInt8))) (some ⟨g5, 0, none⟩) 4 q5 (b4 100) _ HF.out (by exact HR5.out) (by decide) (by first | rfl | exact HVL) (Nat.le_trans HLn3.out (by decide)) (Nat.le_trans (m := 4) (by simp [b4]) (by decide)) (by exact HV5_5.out) (fun h => by cases h) (fun k o h e => by cases h; exact HN5_5.out e)).mono ?_; rintro e w6 ⟨v6, rfl, hR, hE⟩; have HR6 := Hid.mk'' hR; have HLn6 : Hid ((([] : List UInt8) ++ attr (flagOf 1) (1 : Nat) ([0]) ++ attr (flagOf 2) (2 : Nat) (([] : List UInt8)) ++ attr (flagOf 5) (5 : Nat) (b4 100)).length ≤ 15 + (4 + 4)) := len_app HLn3.out (attr_le _ _ _ 4 (by simp [b4])); clear hR hE; obtain ⟨b0, b1, b2⟩ := SB.out _ HR6.out.below; obtain ⟨a3, a4c⟩ := SX.out _ HR6.out.below; have hs6 : w.heap.size < w6.heap.size := (Nat.lt_of_lt_of_le HXs.out HR6.out.below.size); have ht6 : ¬ w.heap.size = w6.heap.size := Nat.ne_of_lt hs6)
    | (go_at_call 53; have _tok := HR4; refine (app32_any 100 w4.heap.size _ [] _ (by decide) (by exact OB.nil _ _ _) (by simp) (by simp)).mono ?_; rintro e w5 ⟨x5, rfl, hO, hE, -⟩; have hb : Below w4.heap.size w4 w5 := (hE.below (Below.refl _ _) (Nat.le_refl _) (fun k h => by cases h)); have HR5 := Hid.mk'' (HR4.out.later hb); obtain ⟨g5, q5, hx, hge, hlt, -, -⟩ : ∃ g q, x5 = .slice (some ⟨g, 0, none⟩) 4 q ∧ w4.heap.size ≤ g ∧ g < w5.heap.size ∧ True ∧ True := (by rcases hO.form with h | ⟨g, c, h, h1, h2, _⟩; (exact absurd h.2 (by simp [b4, be16])); exact ⟨g, c, h, h1, h2, trivial, trivial⟩); subst hx; have HV5_5 : Hid (View w5 (some ⟨g5, 0, none⟩) (bc (b4 100))) := view_row hO; have HN5_5 : Hid (v3.ownBlock ≠ some g5) := (fun e => by have := (HR4.out.row.lt _ e).2; omega); clear hO hE hb hge hlt; obtain ⟨b0, b1, b2⟩ := SB.out _ HR5.out.below; obtain ⟨a3, a4c⟩ := SX.out _ HR5.out.below; have hs5 : w.heap.size < w5.heap.size := (Nat.lt_of_lt_of_le HXs.out HR5.out.below.size); have ht5 : ¬ w.heap.size = w5.heap.size := Nat.ne_of_lt hs5)
    | (go_at_call 61; have _tok := HR3; refine (internal_any la la a4 true _ (by first | exact decide_eq_true rfl | exact HWd.out)).mono ?_; rintro e w4 ⟨rfl, hb⟩; have HR4 := Hid.mk'' (HR3.out.later hb); clear hb; obtain ⟨b0, b1, b2⟩ := SB.out _ HR4.out.below; obtain ⟨a3, a4c⟩ := SX.out _ HR4.out.below; have hs4 : w.heap.size < w4.heap.size := (Nat.lt_of_lt_of_le HXs.out HR4.out.below.size); have ht4 : ¬ w.heap.size = w4.heap.size := Nat.ne_of_lt hs4)
    | (go_at_call 57; have _tok := HR2; refine (attr_rw X 2 _ (([] : List UInt8) ++ attr (flagOf 1) (1 : Nat) ([0])) none 0 0 (([] : List UInt8)) _ HF.out (by exact HR2.out) (by decide) (by first | rfl | exact HVL) (Nat.le_trans HLn1.out (by decide)) (Nat.le_trans (m := 6) (by simp [b4, be16]) (by decide)) (by exact View.nil _ _) (fun _ => rfl) (fun k o h => by cases h)).mono ?_; rintro e w3 ⟨v3, rfl, hR, hE⟩; have HR3 := Hid.mk'' hR; have HLn3 : Hid ((([] : List UInt8) ++ attr (flagOf 1) (1 : Nat) ([0]) ++ attr (flagOf 2) (2 : Nat) (([] : List UInt8))).length ≤ 5 + (6 + 4)) := len_app HLn1.out (attr_le _ _ _ 6 (by simp [b4, be16])); clear hR hE; obtain ⟨b0, b1, b2⟩ := SB.out _ HR3.out.below; obtain ⟨a3, a4c⟩ := SX.out _ HR3.out.below; have hs3 : w.heap.size < w3.heap.size := (Nat.lt_of_lt_of_le HXs.out HR3.out.below.size); have ht3 : ¬ w.heap.size = w3.heap.size := Nat.ne_of_lt hs3)
    | (go_at_call 61; have _tok := HR1; refine (internal_any la la a4 true _ (by first | exact decide_eq_true rfl | exact HWd.out)).mono ?_; rintro e w2 ⟨rfl, hb⟩; have HR2 := Hid.mk'' (HR1.out.later hb); clear hb; obtain ⟨b0, b1, b2⟩ := SB.out _ HR2.out.below; obtain ⟨a3, a4c⟩ := SX.out _ HR2.out.below; have hs2 : w.heap.size < w2.heap.size := (Nat.lt_of_lt_of_le HXs.out HR2.out.below.size); have ht2 : ¬ w.heap.size = w2.heap.size := Nat.ne_of_lt hs2)
    | (go_at_call 57; have _tok := HR0; refine (attr_rw X 1 _ (([] : List UInt8)) (some ⟨X.heap.size, 0, none⟩) 1 1 ([0]) _ HF.out (by exact HR0.out.alloc _) (by decide) (by first | rfl | exact HVL) (Nat.le_trans HLn0.out (by decide)) (Nat.le_trans (m := 1) (by simp) (by decide)) (by exact lit_view _ [0] _ _ rfl rfl) (fun h => by cases h) (fun k o _ h => by cases h)).mono ?_; rintro e w1 ⟨v1, rfl, hR, hE⟩; have HR1 := Hid.mk'' hR; have HLn1 : Hid ((([] : List UInt8) ++ attr (flagOf 1) (1 : Nat) ([0])).length ≤ 0 + (1 + 4)) := len_app HLn0.out (attr_le _ _ _ 1 (by simp)); clear hR hE; obtain ⟨b0, b1, b2⟩ := SB.out _ HR1.out.below; obtain ⟨a3, a4c⟩ := SX.out _ HR1.out.below; have hs1 : w.heap.size < w1.heap.size := (Nat.lt_of_lt_of_le HXs.out HR1.out.below.size); have ht1 : ¬ w.heap.size = w1.heap.size := Nat.ne_of_lt hs1)
    | fail)
  go_loopw [9, 64] (fun v i wr => ∃ (k : Nat), k ≤ m ∧ i = .int .i64 k ∧ Hid (OB 5 w6.heap.size wr v (coOct (cs.take k))) ∧ Hid (Below w6.heap.size w6 wr)) (fun _ i _ => m - (intOf i).toNat)
  case atStart => exact ⟨0, Nat.zero_le _, rfl, OB.nil _ _ _, Below.refl _ _⟩
  case round =>
    obtain ⟨k, hk, rfl, HO, HBl⟩ := hrel
    by_cases hlt : k < m
    · obtain ⟨cz, hcz⟩ : ∃ cz, cs[k]? = some cz := ⟨_, List.getElem?_eq_getElem (by have := HM.out; omega)⟩
      have HCz := Hid.mk'' hcz
      obtain ⟨d0, d1, d2, d3, d4, d5, d6, d7⟩ := (HCV.out _ (HR6.out.below.trans (HBl.out.mono HR6.out.below.size))).at8 hcz
      have i1 : (0 : Int) ≤ (k : Int) := by omega
      have i2 : (k : Int) < (m : Int) := by omega
      have i3 := HO.out
      go_wp2_with (first
        | (at_builtin; go_must (refine wpList_append_any _ rfl (.tmp 68) (.tmp 69) 23 23 rfl w6.heap.size 5 i0 (.int .u8 0) 1 1 Tryf.underlying23 hi hz0 hz1 hz2 rfl _ (coOct (cs.take k)).length (bc (coOct (cs.take k))) (by rfl) (by exact HO.out.alloc _) _ 8 (bc (o8 cz)) (by rfl) (Src.litH _ Tryf.underlying23 (o8 cz) _ 8 8 70 wr.heap.size (by simp) rfl rfl) (by have := HC.out; rw [coOct_len, List.length_take]; unfold maxLen; omega) (by have := HC.out; rw [coOct_len, List.length_take]; omega) (by have := HBl.out.size; simp; omega) ?_); intro v2 w2 hown hext _ _)
        | fail)
      have HO2 : Hid (OB 5 w6.heap.size w2 v2 (coOct (cs.take (k + 1)))) := by rw [Hid, co_take HCz.out]; exact OB.app hown rfl
      have HB2 : Hid (Below w6.heap.size w6 w2) := hext.of_alloc.below HBl.out HBl.out.size (fun g h => (HO.out.lt g h).1)
      go_roundw
      case rel => exact ⟨k + 1, by omega, by go_num, HO2, HB2⟩
      case measure => simp [intOf]; omega
    · obtain rfl : k = m := by omega
      have HO3 : Hid (OB 5 w6.heap.size wr u9 (coOct cs)) := by have h := HO.out; rw [HM.out, List.take_length] at h; exact h
      have HR7 := Hid.mk'' (HR6.out.later HBl.out)
      obtain ⟨g16, q16, hx, hge⟩ : ∃ g q16, u9 = Value.slice (some ⟨g, 0, none⟩) (coOct cs).length q16 ∧ w6.heap.size ≤ g := by
        rcases HO3.out.form with h | ⟨g, c, h, h1, h2, _⟩
        · exact absurd (congrArg List.length h.2) (by rw [coOct_len]; simp; have := HM.out; omega)
        · exact ⟨g, c, h, h1⟩
      subst hx
      have HV16 : Hid (View wr (some ⟨g16, 0, none⟩) (bc (coOct cs))) := view_row HO3.out
      have HN16 : Hid (v6.ownBlock ≠ some g16) := fun e => by have := (HR6.out.row.lt _ e).2; omega
      obtain ⟨b0, b1, b2⟩ := SB.out _ HR7.out.below
      obtain ⟨a3, a4c⟩ := SX.out _ HR7.out.below
      have hs7 : w.heap.size < wr.heap.size := (Nat.lt_of_lt_of_le HXs.out HR7.out.below.size)
      have ht7 : ¬ w.heap.size = wr.heap.size := Nat.ne_of_lt hs7
      go_wp2_with (first
        | (go_at_call 57; have _tok := HR7; refine (attr_rw X 16 _ (([] : List UInt8) ++ attr (flagOf 1) (1 : Nat) ([0]) ++ attr (flagOf 2) (2 : Nat) (([] : List UInt8)) ++ attr (flagOf 5) (5 : Nat) (b4 100)) (some ⟨g16, 0, none⟩) (coOct cs).length q16 (coOct cs) _ HF.out (by exact HR7.out) (by decide) (by first | rfl | exact HVL) (Nat.le_trans HLn6.out (by decide)) (Nat.le_trans (m := 32768) (by have := HC.out; rw [coOct_len]; omega) (by decide)) (by exact HV16.out) (fun h => by cases h) (fun k o h e => by cases h; exact HN16.out e)).mono ?_; rintro e w8 ⟨v8, rfl, hR, hE⟩; have HR8 := Hid.mk'' hR; have HLn8 : Hid ((([] : List UInt8) ++ attr (flagOf 1) (1 : Nat) ([0]) ++ attr (flagOf 2) (2 : Nat) (([] : List UInt8)) ++ attr (flagOf 5) (5 : Nat) (b4 100) ++ attr (flagOf 16) (16 : Nat) (coOct cs)).length ≤ 23 + (32768 + 4)) := len_app HLn6.out (attr_le _ _ _ 32768 (by have := HC.out; rw [coOct_len]; omega)); clear hR hE; obtain ⟨b0, b1, b2⟩ := SB.out _ HR8.out.below; obtain ⟨a3, a4c⟩ := SX.out _ HR8.out.below; have hs8 : w.heap.size < w8.heap.size := (Nat.lt_of_lt_of_le HXs.out HR8.out.below.size); have ht8 : ¬ w.heap.size = w8.heap.size := Nat.ne_of_lt hs8)
        | fail)
      go_ret
      refine ⟨_, rfl, ?_, HXw.out.trans (HR8.out.below.mono HXw.out.size)⟩
      have e := HRes.out
      rw [← e]
      exact HR8.out.row.base (fun k h => Nat.le_trans HXw.out.size (HR8.out.row.lt k h).1)

set_option maxRecDepth 100000 in
set_option maxHeartbeats 4000000 in
theorem path_i11 (ab la pa : Nat) (a4 : Bool) (ea : Option Addr) (ec : Nat) (cs : List (Nat → UInt8)) (tp : Option Addr) (pm : Option PI) (w : World) (hF : Fl w) (hla : la < 4294967296)
    (h3 : w.cell? ⟨ab, 3, none⟩ = some (.slice ea cs.length ec)) (h4 : w.cell? ⟨ab, 4, none⟩ = some (.pointer tp)) (hCV : CV w ea cs) (hTV : TV w tp pm) (hcs : cs.length ≤ 4096) (hpm : ∀ q, pm = some q → q.fl < 256 ∧ q.tt < 256 ∧ q.lb < 4294967296 ∧ q.tid.length ≤ 4096)
    (hw : la = pa) (hc : ¬ cs.length = 0) (hp : pm ≠ none) :
    Calls Tryf.prog 52 #[.pointer (some ⟨ab, 0, none⟩), .slice none 0 0, .agg #[.int .u32 la, .int .u32 pa, .bool a4]] w fun e w' => ∃ v', e = .returned v' ∧ OB 5 w.heap.size w' v' (avOf la pa a4 cs pm) ∧ Below w.heap.size w w' := by
  obtain ⟨i0, hi, hz0, hz1, hz2⟩ := info_parts Tryf.info5
  have HA := Hid.mk'' hla
  have HC := Hid.mk'' hcs
  subst hw
  obtain ⟨q, rfl⟩ : ∃ q, pm = some q := by cases pm with | none => exact absurd rfl hp | some q => exact ⟨q, rfl⟩
  obtain ⟨tb, ta, tc, rfl, hT, hTv, hTn⟩ := hTV
  have HT := Hid.mk'' hT
  have HTv := Hid.mk'' hTv
  have HTn := Hid.mk'' hTn
  have HQ := Hid.mk'' (hpm q rfl)
  clear hT hTv hTn hpm hp
  obtain ⟨eb, eo, rfl⟩ : ∃ eb eo, ea = some ⟨eb, eo, none⟩ := by
    rcases hCV with h | ⟨eb, eo, h, _⟩
    · exact absurd (by rw [h]; rfl) hc
    · exact ⟨eb, eo, h⟩
  have HRes : Hid (([] ++ attr (flagOf 1) (1 : Nat) [0] ++ attr (flagOf 2) (2 : Nat) [] ++ attr (flagOf 5) (5 : Nat) (b4 100)) ++ attr (flagOf 16) (16 : Nat) (coOct cs) ++ attr (flagOf 22) (22 : Nat) (pmOct q) = avOf la la a4 cs (some q)) := by
    have e1 : pathOct la la a4 = [] := by unfold pathOct; rw [if_pos rfl]
    have e2 : p4Attr la la a4 = [] := by unfold p4Attr; rw [if_pos rfl]
    have e3 : coAttr cs = attr (flagOf 16) 16 (coOct cs) := by unfold coAttr; rw [if_neg hc]
    have e4 : pmAttr (some q) = attr (flagOf 22) 22 (pmOct q) := rfl
    unfold avOf wkOct
    rw [e1, e2, e3, e4, if_pos rfl]
    show _ = _
    simp only [List.nil_append, List.append_nil, List.append_assoc]
    rfl
  obtain ⟨X, hX⟩ : ∃ X, X = (w.alloc (.cells #[.int .u32 la, .int .u32 la, .bool a4] 44)) := ⟨_, rfl⟩
  have HXw : Hid (Below w.heap.size w X) := by rw [hX]; exact (Below.refl _ _).alloc (Nat.le_refl _) _
  have HXs : Hid (w.heap.size < X.heap.size) := by rw [hX]; simp [Hid]
  have HF : Hid (Fl X) := hF.later HXw.out
  have SX : Hid (∀ W, Below X.heap.size X W → W.cell? ⟨ab, 3, none⟩ = some (.slice (some ⟨eb, eo, none⟩) cs.length ec) ∧ W.cell? ⟨ab, 4, none⟩ = some (.pointer (some ⟨tb, 0, none⟩))) := fun W hb => ⟨cell_later hb (cell_later HXw.out h3), cell_later hb (cell_later HXw.out h4)⟩
  have SB : Hid (∀ W, Below X.heap.size X W → W.cell? ⟨w.heap.size, 0, none⟩ = some (.int .u32 la) ∧ W.cell? ⟨w.heap.size, 1, none⟩ = some (.int .u32 la) ∧ W.cell? ⟨w.heap.size, 2, none⟩ = some (.bool a4)) := fun W hb => by
    subst hX
    have h := blk_on hb (Blk.new w 44 #[.int .u32 la, .int .u32 la, .bool a4])
    exact ⟨h.cell 0, h.cell 1, h.cell 2⟩
  have HCV : Hid (∀ W, Below X.heap.size X W → CV W (some ⟨eb, eo, none⟩) cs) := fun W hb => (hCV.later HXw.out).later hb
  obtain ⟨m, hm⟩ : ∃ m, m = cs.length := ⟨_, rfl⟩
  have HM : Hid (m = cs.length) := hm
  have j1 : (m : Int) ≤ 4096 := by omega
  have j2 : (0 : Int) < (m : Int) := by omega
  have j3 : 0 < m := by omega
  rw [← hm] at h3 SX
  clear hF hla hcs h3 h4 hCV hc hm
  go_enter Tryf.func52, Tryf.ntmps52
  go_upto_region 1 with fail
  rw [← hX]
  clear hX
  have HR0 : Hid (Rw X X (.slice none 0 0) []) := ⟨OB.nil _ _ _, Below.refl _ _⟩
  have HLn0 : Hid (([] : List UInt8).length ≤ 0) := Nat.le_refl _
  go_wp2_with (first
    | (go_at_call 57; have _tok := HR5; refine (attr_rw X 5 _ (([] : List UInt8) ++ attr (flagOf 1) (1 : Nat) ([0]) ++ attr (flagOf 2) (2 : Nat) (([] : List UInt8))) (some ⟨g5, 0, none⟩) 4 q5 (b4 100) _ HF.out (by exact HR5.out) (by decide) (by first | rfl | exact HVL) (Nat.le_trans HLn3.out (by decide)) (Nat.le_trans (m := 4) (by simp [b4]) (by decide)) (by exact HV5_5.out) (fun h => by cases h) (fun k o h e => by cases h; exact HN5_5.out e)).mono ?_; rintro e w6 ⟨v6, rfl, hR, hE⟩; have HR6 := Hid.mk'' hR; have HLn6 : Hid ((([] : List UInt8) ++ attr (flagOf 1) (1 : Nat) ([0]) ++ attr (flagOf 2) (2 : Nat) (([] : List UInt8)) ++ attr (flagOf 5) (5 : Nat) (b4 100)).length ≤ 15 + (4 + 4)) := len_app HLn3.out (attr_le _ _ _ 4 (by simp [b4])); clear hR hE; obtain ⟨b0, b1, b2⟩ := SB.out _ HR6.out.below; obtain ⟨a3, a4c⟩ := SX.out _ HR6.out.below; have hs6 : w.heap.size < w6.heap.size := (Nat.lt_of_lt_of_le HXs.out HR6.out.below.size); have ht6 : ¬ w.heap.size = w6.heap.size := Nat.ne_of_lt hs6)
    | (go_at_call 53; have _tok := HR4; refine (app32_any 100 w4.heap.size _ [] _ (by decide) (by exact OB.nil _ _ _) (by simp) (by simp)).mono ?_; rintro e w5 ⟨x5, rfl, hO, hE, -⟩; have hb : Below w4.heap.size w4 w5 := (hE.below (Below.refl _ _) (Nat.le_refl _) (fun k h => by cases h)); have HR5 := Hid.mk'' (HR4.out.later hb); obtain ⟨g5, q5, hx, hge, hlt, -, -⟩ : ∃ g q, x5 = .slice (some ⟨g, 0, none⟩) 4 q ∧ w4.heap.size ≤ g ∧ g < w5.heap.size ∧ True ∧ True := (by rcases hO.form with h | ⟨g, c, h, h1, h2, _⟩; (exact absurd h.2 (by simp [b4, be16])); exact ⟨g, c, h, h1, h2, trivial, trivial⟩); subst hx; have HV5_5 : Hid (View w5 (some ⟨g5, 0, none⟩) (bc (b4 100))) := view_row hO; have HN5_5 : Hid (v3.ownBlock ≠ some g5) := (fun e => by have := (HR4.out.row.lt _ e).2; omega); clear hO hE hb hge hlt; obtain ⟨b0, b1, b2⟩ := SB.out _ HR5.out.below; obtain ⟨a3, a4c⟩ := SX.out _ HR5.out.below; have hs5 : w.heap.size < w5.heap.size := (Nat.lt_of_lt_of_le HXs.out HR5.out.below.size); have ht5 : ¬ w.heap.size = w5.heap.size := Nat.ne_of_lt hs5)
    | (go_at_call 61; have _tok := HR3; refine (internal_any la la a4 true _ (by first | exact decide_eq_true rfl | exact HWd.out)).mono ?_; rintro e w4 ⟨rfl, hb⟩; have HR4 := Hid.mk'' (HR3.out.later hb); clear hb; obtain ⟨b0, b1, b2⟩ := SB.out _ HR4.out.below; obtain ⟨a3, a4c⟩ := SX.out _ HR4.out.below; have hs4 : w.heap.size < w4.heap.size := (Nat.lt_of_lt_of_le HXs.out HR4.out.below.size); have ht4 : ¬ w.heap.size = w4.heap.size := Nat.ne_of_lt hs4)
    | (go_at_call 57; have _tok := HR2; refine (attr_rw X 2 _ (([] : List UInt8) ++ attr (flagOf 1) (1 : Nat) ([0])) none 0 0 (([] : List UInt8)) _ HF.out (by exact HR2.out) (by decide) (by first | rfl | exact HVL) (Nat.le_trans HLn1.out (by decide)) (Nat.le_trans (m := 6) (by simp [b4, be16]) (by decide)) (by exact View.nil _ _) (fun _ => rfl) (fun k o h => by cases h)).mono ?_; rintro e w3 ⟨v3, rfl, hR, hE⟩; have HR3 := Hid.mk'' hR; have HLn3 : Hid ((([] : List UInt8) ++ attr (flagOf 1) (1 : Nat) ([0]) ++ attr (flagOf 2) (2 : Nat) (([] : List UInt8))).length ≤ 5 + (6 + 4)) := len_app HLn1.out (attr_le _ _ _ 6 (by simp [b4, be16])); clear hR hE; obtain ⟨b0, b1, b2⟩ := SB.out _ HR3.out.below; obtain ⟨a3, a4c⟩ := SX.out _ HR3.out.below; have hs3 : w.heap.size < w3.heap.size := (Nat.lt_of_lt_of_le HXs.out HR3.out.below.size); have ht3 : ¬ w.heap.size = w3.heap.size := Nat.ne_of_lt hs3)
    | (go_at_call 61; have _tok := HR1; refine (internal_any la la a4 true _ (by first | exact decide_eq_true rfl | exact HWd.out)).mono ?_; rintro e w2 ⟨rfl, hb⟩; have HR2 := Hid.mk'' (HR1.out.later hb); clear hb; obtain ⟨b0, b1, b2⟩ := SB.out _ HR2.out.below; obtain ⟨a3, a4c⟩ := SX.out _ HR2.out.below; have hs2 : w.heap.size < w2.heap.size := (Nat.lt_of_lt_of_le HXs.out HR2.out.below.size); have ht2 : ¬ w.heap.size = w2.heap.size := Nat.ne_of_lt hs2)
    | (go_at_call 57; have _tok := HR0; refine (attr_rw X 1 _ (([] : List UInt8)) (some ⟨X.heap.size, 0, none⟩) 1 1 ([0]) _ HF.out (by exact HR0.out.alloc _) (by decide) (by first | rfl | exact HVL) (Nat.le_trans HLn0.out (by decide)) (Nat.le_trans (m := 1) (by simp) (by decide)) (by exact lit_view _ [0] _ _ rfl rfl) (fun h => by cases h) (fun k o _ h => by cases h)).mono ?_; rintro e w1 ⟨v1, rfl, hR, hE⟩; have HR1 := Hid.mk'' hR; have HLn1 : Hid ((([] : List UInt8) ++ attr (flagOf 1) (1 : Nat) ([0])).length ≤ 0 + (1 + 4)) := len_app HLn0.out (attr_le _ _ _ 1 (by simp)); clear hR hE; obtain ⟨b0, b1, b2⟩ := SB.out _ HR1.out.below; obtain ⟨a3, a4c⟩ := SX.out _ HR1.out.below; have hs1 : w.heap.size < w1.heap.size := (Nat.lt_of_lt_of_le HXs.out HR1.out.below.size); have ht1 : ¬ w.heap.size = w1.heap.size := Nat.ne_of_lt hs1)
    | fail)
  go_loopw [9, 64] (fun v i wr => ∃ (k : Nat), k ≤ m ∧ i = .int .i64 k ∧ Hid (OB 5 w6.heap.size wr v (coOct (cs.take k))) ∧ Hid (Below w6.heap.size w6 wr)) (fun _ i _ => m - (intOf i).toNat)
  case atStart => exact ⟨0, Nat.zero_le _, rfl, OB.nil _ _ _, Below.refl _ _⟩
  case round =>
    obtain ⟨k, hk, rfl, HO, HBl⟩ := hrel
    by_cases hlt : k < m
    · obtain ⟨cz, hcz⟩ : ∃ cz, cs[k]? = some cz := ⟨_, List.getElem?_eq_getElem (by have := HM.out; omega)⟩
      have HCz := Hid.mk'' hcz
      obtain ⟨d0, d1, d2, d3, d4, d5, d6, d7⟩ := (HCV.out _ (HR6.out.below.trans (HBl.out.mono HR6.out.below.size))).at8 hcz
      have i1 : (0 : Int) ≤ (k : Int) := by omega
      have i2 : (k : Int) < (m : Int) := by omega
      have i3 := HO.out
      go_wp2_with (first
        | (at_builtin; go_must (refine wpList_append_any _ rfl (.tmp 68) (.tmp 69) 23 23 rfl w6.heap.size 5 i0 (.int .u8 0) 1 1 Tryf.underlying23 hi hz0 hz1 hz2 rfl _ (coOct (cs.take k)).length (bc (coOct (cs.take k))) (by rfl) (by exact HO.out.alloc _) _ 8 (bc (o8 cz)) (by rfl) (Src.litH _ Tryf.underlying23 (o8 cz) _ 8 8 70 wr.heap.size (by simp) rfl rfl) (by have := HC.out; rw [coOct_len, List.length_take]; unfold maxLen; omega) (by have := HC.out; rw [coOct_len, List.length_take]; omega) (by have := HBl.out.size; simp; omega) ?_); intro v2 w2 hown hext _ _)
        | fail)
      have HO2 : Hid (OB 5 w6.heap.size w2 v2 (coOct (cs.take (k + 1)))) := by rw [Hid, co_take HCz.out]; exact OB.app hown rfl
      have HB2 : Hid (Below w6.heap.size w6 w2) := hext.of_alloc.below HBl.out HBl.out.size (fun g h => (HO.out.lt g h).1)
      go_roundw
      case rel => exact ⟨k + 1, by omega, by go_num, HO2, HB2⟩
      case measure => simp [intOf]; omega
    · obtain rfl : k = m := by omega
      have HO3 : Hid (OB 5 w6.heap.size wr u9 (coOct cs)) := by have h := HO.out; rw [HM.out, List.take_length] at h; exact h
      have HR7 := Hid.mk'' (HR6.out.later HBl.out)
      obtain ⟨g16, q16, hx, hge⟩ : ∃ g q16, u9 = Value.slice (some ⟨g, 0, none⟩) (coOct cs).length q16 ∧ w6.heap.size ≤ g := by
        rcases HO3.out.form with h | ⟨g, c, h, h1, h2, _⟩
        · exact absurd (congrArg List.length h.2) (by rw [coOct_len]; simp; have := HM.out; omega)
        · exact ⟨g, c, h, h1⟩
      subst hx
      have HV16 : Hid (View wr (some ⟨g16, 0, none⟩) (bc (coOct cs))) := view_row HO3.out
      have HN16 : Hid (v6.ownBlock ≠ some g16) := fun e => by have := (HR6.out.row.lt _ e).2; omega
      obtain ⟨b0, b1, b2⟩ := SB.out _ HR7.out.below
      obtain ⟨a3, a4c⟩ := SX.out _ HR7.out.below
      have hs7 : w.heap.size < wr.heap.size := (Nat.lt_of_lt_of_le HXs.out HR7.out.below.size)
      have ht7 : ¬ w.heap.size = wr.heap.size := Nat.ne_of_lt hs7
      go_wp2_with (first
        | (go_at_call 57; have _tok := HR9; refine (attr_rw X 22 _ (([] : List UInt8) ++ attr (flagOf 1) (1 : Nat) ([0]) ++ attr (flagOf 2) (2 : Nat) (([] : List UInt8)) ++ attr (flagOf 5) (5 : Nat) (b4 100) ++ attr (flagOf 16) (16 : Nat) (coOct cs)) (some ⟨g22, 0, none⟩) (pmOct q).length q22 (pmOct q) _ HF.out (by exact HR9.out) (by decide) (by first | rfl | exact HVL) (Nat.le_trans HLn8.out (by decide)) (Nat.le_trans (m := 4101) (by have := HQ.out.2.2.2; simp [pmOct, b3]; omega) (by decide)) (by exact HV22.out) (fun h => by cases h) (fun k o h e => by cases h; exact HN22.out e)).mono ?_; rintro e w10 ⟨v10, rfl, hR, hE⟩; have HR10 := Hid.mk'' hR; have HLn10 : Hid ((([] : List UInt8) ++ attr (flagOf 1) (1 : Nat) ([0]) ++ attr (flagOf 2) (2 : Nat) (([] : List UInt8)) ++ attr (flagOf 5) (5 : Nat) (b4 100) ++ attr (flagOf 16) (16 : Nat) (coOct cs) ++ attr (flagOf 22) (22 : Nat) (pmOct q)).length ≤ 32795 + (4101 + 4)) := len_app HLn8.out (attr_le _ _ _ 4101 (by have := HQ.out.2.2.2; simp [pmOct, b3]; omega)); clear hR hE; obtain ⟨b0, b1, b2⟩ := SB.out _ HR10.out.below; obtain ⟨a3, a4c⟩ := SX.out _ HR10.out.below; have hs10 : w.heap.size < w10.heap.size := (Nat.lt_of_lt_of_le HXs.out HR10.out.below.size); have ht10 : ¬ w.heap.size = w10.heap.size := Nat.ne_of_lt hs10)
        | (go_at_call 62; have _tok := HR8; refine (pmsi_any tb q ta tc _ (by exact blk_on (HR8.out.below) (blk_on HXw.out HT.out)) (by exact (HTv.out.all HXw.out).all HR8.out.below) HTn.out HQ.out.1 HQ.out.2.1 HQ.out.2.2.1 (by have := HQ.out.2.2.2; omega)).mono ?_; rintro e w9 ⟨x9, rfl, hO, hb⟩; have HR9 := Hid.mk'' (HR8.out.later hb); obtain ⟨g22, q22, hx, hge⟩ : ∃ g q22, x9 = .slice (some ⟨g, 0, none⟩) (pmOct q).length q22 ∧ w8.heap.size ≤ g := (by rcases hO.form with h | ⟨g, c, h, h1, h2, _⟩; (exact absurd h.2 (by simp [pmOct])); exact ⟨g, c, h, h1⟩); subst hx; have HV22 : Hid (View w9 (some ⟨g22, 0, none⟩) (bc (pmOct q))) := view_row hO; have HN22 : Hid (v8.ownBlock ≠ some g22) := (fun e => by have := (HR8.out.row.lt _ e).2; omega); clear hO hb hge; obtain ⟨b0, b1, b2⟩ := SB.out _ HR9.out.below; obtain ⟨a3, a4c⟩ := SX.out _ HR9.out.below; have hs9 : w.heap.size < w9.heap.size := (Nat.lt_of_lt_of_le HXs.out HR9.out.below.size); have ht9 : ¬ w.heap.size = w9.heap.size := Nat.ne_of_lt hs9)
        | (go_at_call 57; have _tok := HR7; refine (attr_rw X 16 _ (([] : List UInt8) ++ attr (flagOf 1) (1 : Nat) ([0]) ++ attr (flagOf 2) (2 : Nat) (([] : List UInt8)) ++ attr (flagOf 5) (5 : Nat) (b4 100)) (some ⟨g16, 0, none⟩) (coOct cs).length q16 (coOct cs) _ HF.out (by exact HR7.out) (by decide) (by first | rfl | exact HVL) (Nat.le_trans HLn6.out (by decide)) (Nat.le_trans (m := 32768) (by have := HC.out; rw [coOct_len]; omega) (by decide)) (by exact HV16.out) (fun h => by cases h) (fun k o h e => by cases h; exact HN16.out e)).mono ?_; rintro e w8 ⟨v8, rfl, hR, hE⟩; have HR8 := Hid.mk'' hR; have HLn8 : Hid ((([] : List UInt8) ++ attr (flagOf 1) (1 : Nat) ([0]) ++ attr (flagOf 2) (2 : Nat) (([] : List UInt8)) ++ attr (flagOf 5) (5 : Nat) (b4 100) ++ attr (flagOf 16) (16 : Nat) (coOct cs)).length ≤ 23 + (32768 + 4)) := len_app HLn6.out (attr_le _ _ _ 32768 (by have := HC.out; rw [coOct_len]; omega)); clear hR hE; obtain ⟨b0, b1, b2⟩ := SB.out _ HR8.out.below; obtain ⟨a3, a4c⟩ := SX.out _ HR8.out.below; have hs8 : w.heap.size < w8.heap.size := (Nat.lt_of_lt_of_le HXs.out HR8.out.below.size); have ht8 : ¬ w.heap.size = w8.heap.size := Nat.ne_of_lt hs8)
        | fail)
      go_ret
      refine ⟨_, rfl, ?_, HXw.out.trans (HR10.out.below.mono HXw.out.size)⟩
      have e := HRes.out
      rw [← e]
      exact HR10.out.row.base (fun k h => Nat.le_trans HXw.out.size (HR10.out.row.lt k h).1)

set_option maxRecDepth 100000 in
set_option maxHeartbeats 4000000 in
theorem path_a00 (ab la pa : Nat) (a4 : Bool) (ea : Option Addr) (ec : Nat) (cs : List (Nat → UInt8)) (tp : Option Addr) (pm : Option PI) (w : World) (hF : Fl w) (hla : la < 4294967296)
    (h3 : w.cell? ⟨ab, 3, none⟩ = some (.slice ea cs.length ec)) (h4 : w.cell? ⟨ab, 4, none⟩ = some (.pointer tp)) (hCV : CV w ea cs) (hTV : TV w tp pm) (hcs : cs.length ≤ 4096) (hpm : ∀ q, pm = some q → q.fl < 256 ∧ q.tt < 256 ∧ q.lb < 4294967296 ∧ q.tid.length ≤ 4096)
    (hw : ¬ la = pa ∧ a4 = true) (hc : cs.length = 0) (hp : pm = none) :
    Calls Tryf.prog 52 #[.pointer (some ⟨ab, 0, none⟩), .slice none 0 0, .agg #[.int .u32 la, .int .u32 pa, .bool a4]] w fun e w' => ∃ v', e = .returned v' ∧ OB 5 w.heap.size w' v' (avOf la pa a4 cs pm) ∧ Below w.heap.size w w' := by
  obtain ⟨i0, hi, hz0, hz1, hz2⟩ := info_parts Tryf.info5
  have HA := Hid.mk'' hla
  have HC := Hid.mk'' hcs
  obtain ⟨hw, rfl⟩ := hw
  have k1 : ¬ (la : Int) = (pa : Int) := by omega
  subst hp
  obtain rfl : tp = none := hTV
  clear hpm
  have HRes : Hid (([] ++ attr (flagOf 1) (1 : Nat) [0] ++ attr (flagOf 2) (2 : Nat) ([2, 1] ++ b4 la)) = avOf la pa true cs none) := by
    have e1 : pathOct la pa true = [2, 1] ++ b4 la := by unfold pathOct; rw [if_neg hw, if_pos rfl]
    have e2 : p4Attr la pa true = [] := by unfold p4Attr; rw [if_neg hw, if_pos rfl]
    have e3 : coAttr cs = [] := by unfold coAttr; rw [if_pos hc]
    have e4 : pmAttr none = [] := rfl
    unfold avOf wkOct
    rw [e1, e2, e3, e4, if_neg hw]
    show _ = _
    simp only [List.nil_append, List.append_nil, List.append_assoc]
    rfl
  obtain ⟨X, hX⟩ : ∃ X, X = (w.alloc (.cells #[.int .u32 la, .int .u32 pa, .bool true] 44)) := ⟨_, rfl⟩
  have HXw : Hid (Below w.heap.size w X) := by rw [hX]; exact (Below.refl _ _).alloc (Nat.le_refl _) _
  have HXs : Hid (w.heap.size < X.heap.size) := by rw [hX]; simp [Hid]
  have HF : Hid (Fl X) := hF.later HXw.out
  have SX : Hid (∀ W, Below X.heap.size X W → W.cell? ⟨ab, 3, none⟩ = some (.slice ea cs.length ec) ∧ W.cell? ⟨ab, 4, none⟩ = some (.pointer none)) := fun W hb => ⟨cell_later hb (cell_later HXw.out h3), cell_later hb (cell_later HXw.out h4)⟩
  have SB : Hid (∀ W, Below X.heap.size X W → W.cell? ⟨w.heap.size, 0, none⟩ = some (.int .u32 la) ∧ W.cell? ⟨w.heap.size, 1, none⟩ = some (.int .u32 pa) ∧ W.cell? ⟨w.heap.size, 2, none⟩ = some (.bool true)) := fun W hb => by
    subst hX
    have h := blk_on hb (Blk.new w 44 #[.int .u32 la, .int .u32 pa, .bool true])
    exact ⟨h.cell 0, h.cell 1, h.cell 2⟩
  have HCV : Hid (∀ W, Below X.heap.size X W → CV W ea cs) := fun W hb => (hCV.later HXw.out).later hb
  obtain ⟨m, hm⟩ : ∃ m, m = cs.length := ⟨_, rfl⟩
  have HM : Hid (m = cs.length) := hm
  have j1 : (m : Int) ≤ 4096 := by omega
  have HWd : Hid (decide (la = pa) = false) := decide_eq_false hw
  have j2 : m = 0 := by omega
  subst j2
  rw [← hm] at h3 SX
  clear hF hla hcs h3 h4 hCV hc hm hw
  go_enter Tryf.func52, Tryf.ntmps52
  go_upto_region 1 with fail
  rw [← hX]
  clear hX
  have HR0 : Hid (Rw X X (.slice none 0 0) []) := ⟨OB.nil _ _ _, Below.refl _ _⟩
  have HLn0 : Hid (([] : List UInt8).length ≤ 0) := Nat.le_refl _
  go_wp2_with (first
    | (go_at_call 61; have _tok := HR4; refine (internal_any la pa true false _ (by first | exact decide_eq_true rfl | exact HWd.out)).mono ?_; rintro e w5 ⟨rfl, hb⟩; have HR5 := Hid.mk'' (HR4.out.later hb); clear hb; obtain ⟨b0, b1, b2⟩ := SB.out _ HR5.out.below; obtain ⟨a3, a4c⟩ := SX.out _ HR5.out.below; have hs5 : w.heap.size < w5.heap.size := (Nat.lt_of_lt_of_le HXs.out HR5.out.below.size); have ht5 : ¬ w.heap.size = w5.heap.size := Nat.ne_of_lt hs5)
    | (go_at_call 57; have _tok := HR3; refine (attr_rw X 2 _ (([] : List UInt8) ++ attr (flagOf 1) (1 : Nat) ([0])) (some ⟨g2, 0, none⟩) 6 q2 ([2, 1] ++ b4 la) _ HF.out (by exact HR3.out) (by decide) (by first | rfl | exact HVL) (Nat.le_trans HLn1.out (by decide)) (Nat.le_trans (m := 6) (by simp [b4, be16]) (by decide)) (by exact HV2_3.out) (fun h => by cases h) (fun k o h e => by cases h; exact HN2_3.out e)).mono ?_; rintro e w4 ⟨v4, rfl, hR, hE⟩; have HR4 := Hid.mk'' hR; have HLn4 : Hid ((([] : List UInt8) ++ attr (flagOf 1) (1 : Nat) ([0]) ++ attr (flagOf 2) (2 : Nat) ([2, 1] ++ b4 la)).length ≤ 5 + (6 + 4)) := len_app HLn1.out (attr_le _ _ _ 6 (by simp [b4, be16])); clear hR hE; obtain ⟨b0, b1, b2⟩ := SB.out _ HR4.out.below; obtain ⟨a3, a4c⟩ := SX.out _ HR4.out.below; have hs4 : w.heap.size < w4.heap.size := (Nat.lt_of_lt_of_le HXs.out HR4.out.below.size); have ht4 : ¬ w.heap.size = w4.heap.size := Nat.ne_of_lt hs4)
    | (go_at_call 53; have _tok := HR2; refine (app32_any la w2.heap.size _ [2, 1] _ HA.out (by exact OB.lit _ 5 w2.heap.size w2.heap.size _ [2, 1] 2 rfl (Nat.le_refl _) rfl rfl (by unfold maxLen; omega)) (by simp) (by simp)).mono ?_; rintro e w3 ⟨x3, rfl, hO, hE, -⟩; have hb : Below w2.heap.size w2 w3 := (by have := hE.of_alloc.below (B := w2.heap.size) (Below.refl _ _) (Nat.le_refl _) (fun k h => by cases h; exact Nat.le_refl _); exact this); have HR3 := Hid.mk'' (HR2.out.later hb); obtain ⟨g2, q2, hx, hge, hlt, -, -⟩ : ∃ g q, x3 = .slice (some ⟨g, 0, none⟩) 6 q ∧ w2.heap.size ≤ g ∧ g < w3.heap.size ∧ True ∧ True := (by rcases hO.form with h | ⟨g, c, h, h1, h2, _⟩; (exact absurd h.2 (by simp [b4, be16])); exact ⟨g, c, h, h1, h2, trivial, trivial⟩); subst hx; have HV2_3 : Hid (View w3 (some ⟨g2, 0, none⟩) (bc ([2, 1] ++ b4 la))) := view_row hO; have HN2_3 : Hid (v1.ownBlock ≠ some g2) := (fun e => by have := (HR2.out.row.lt _ e).2; omega); clear hO hE hb hge hlt; obtain ⟨b0, b1, b2⟩ := SB.out _ HR3.out.below; obtain ⟨a3, a4c⟩ := SX.out _ HR3.out.below; have hs3 : w.heap.size < w3.heap.size := (Nat.lt_of_lt_of_le HXs.out HR3.out.below.size); have ht3 : ¬ w.heap.size = w3.heap.size := Nat.ne_of_lt hs3)
    | (go_at_call 61; have _tok := HR1; refine (internal_any la pa true false _ (by first | exact decide_eq_true rfl | exact HWd.out)).mono ?_; rintro e w2 ⟨rfl, hb⟩; have HR2 := Hid.mk'' (HR1.out.later hb); clear hb; obtain ⟨b0, b1, b2⟩ := SB.out _ HR2.out.below; obtain ⟨a3, a4c⟩ := SX.out _ HR2.out.below; have hs2 : w.heap.size < w2.heap.size := (Nat.lt_of_lt_of_le HXs.out HR2.out.below.size); have ht2 : ¬ w.heap.size = w2.heap.size := Nat.ne_of_lt hs2)
    | (go_at_call 57; have _tok := HR0; refine (attr_rw X 1 _ (([] : List UInt8)) (some ⟨X.heap.size, 0, none⟩) 1 1 ([0]) _ HF.out (by exact HR0.out.alloc _) (by decide) (by first | rfl | exact HVL) (Nat.le_trans HLn0.out (by decide)) (Nat.le_trans (m := 1) (by simp) (by decide)) (by exact lit_view _ [0] _ _ rfl rfl) (fun h => by cases h) (fun k o _ h => by cases h)).mono ?_; rintro e w1 ⟨v1, rfl, hR, hE⟩; have HR1 := Hid.mk'' hR; have HLn1 : Hid ((([] : List UInt8) ++ attr (flagOf 1) (1 : Nat) ([0])).length ≤ 0 + (1 + 4)) := len_app HLn0.out (attr_le _ _ _ 1 (by simp)); clear hR hE; obtain ⟨b0, b1, b2⟩ := SB.out _ HR1.out.below; obtain ⟨a3, a4c⟩ := SX.out _ HR1.out.below; have hs1 : w.heap.size < w1.heap.size := (Nat.lt_of_lt_of_le HXs.out HR1.out.below.size); have ht1 : ¬ w.heap.size = w1.heap.size := Nat.ne_of_lt hs1)
    | fail)
  go_ret
  refine ⟨_, rfl, ?_, HXw.out.trans (HR5.out.below.mono HXw.out.size)⟩
  have e := HRes.out
  rw [← e]
  exact HR5.out.row.base (fun k h => Nat.le_trans HXw.out.size (HR5.out.row.lt k h).1)

set_option maxRecDepth 100000 in
set_option maxHeartbeats 4000000 in
theorem path_a01 (ab la pa : Nat) (a4 : Bool) (ea : Option Addr) (ec : Nat) (cs : List (Nat → UInt8)) (tp : Option Addr) (pm : Option PI) (w : World) (hF : Fl w) (hla : la < 4294967296)
    (h3 : w.cell? ⟨ab, 3, none⟩ = some (.slice ea cs.length ec)) (h4 : w.cell? ⟨ab, 4, none⟩ = some (.pointer tp)) (hCV : CV w ea cs) (hTV : TV w tp pm) (hcs : cs.length ≤ 4096) (hpm : ∀ q, pm = some q → q.fl < 256 ∧ q.tt < 256 ∧ q.lb < 4294967296 ∧ q.tid.length ≤ 4096)
    (hw : ¬ la = pa ∧ a4 = true) (hc : cs.length = 0) (hp : pm ≠ none) :
    Calls Tryf.prog 52 #[.pointer (some ⟨ab, 0, none⟩), .slice none 0 0, .agg #[.int .u32 la, .int .u32 pa, .bool a4]] w fun e w' => ∃ v', e = .returned v' ∧ OB 5 w.heap.size w' v' (avOf la pa a4 cs pm) ∧ Below w.heap.size w w' := by
  obtain ⟨i0, hi, hz0, hz1, hz2⟩ := info_parts Tryf.info5
  have HA := Hid.mk'' hla
  have HC := Hid.mk'' hcs
  obtain ⟨hw, rfl⟩ := hw
  have k1 : ¬ (la : Int) = (pa : Int) := by omega
  obtain ⟨q, rfl⟩ : ∃ q, pm = some q := by cases pm with | none => exact absurd rfl hp | some q => exact ⟨q, rfl⟩
  obtain ⟨tb, ta, tc, rfl, hT, hTv, hTn⟩ := hTV
  have HT := Hid.mk'' hT
  have HTv := Hid.mk'' hTv
  have HTn := Hid.mk'' hTn
  have HQ := Hid.mk'' (hpm q rfl)
  clear hT hTv hTn hpm hp
  have HRes : Hid (([] ++ attr (flagOf 1) (1 : Nat) [0] ++ attr (flagOf 2) (2 : Nat) ([2, 1] ++ b4 la)) ++ attr (flagOf 22) (22 : Nat) (pmOct q) = avOf la pa true cs (some q)) := by
    have e1 : pathOct la pa true = [2, 1] ++ b4 la := by unfold pathOct; rw [if_neg hw, if_pos rfl]
    have e2 : p4Attr la pa true = [] := by unfold p4Attr; rw [if_neg hw, if_pos rfl]
    have e3 : coAttr cs = [] := by unfold coAttr; rw [if_pos hc]
    have e4 : pmAttr (some q) = attr (flagOf 22) 22 (pmOct q) := rfl
    unfold avOf wkOct
    rw [e1, e2, e3, e4, if_neg hw]
    show _ = _
    simp only [List.nil_append, List.append_nil, List.append_assoc]
    rfl
  obtain ⟨X, hX⟩ : ∃ X, X = (w.alloc (.cells #[.int .u32 la, .int .u32 pa, .bool true] 44)) := ⟨_, rfl⟩
  have HXw : Hid (Below w.heap.size w X) := by rw [hX]; exact (Below.refl _ _).alloc (Nat.le_refl _) _
  have HXs : Hid (w.heap.size < X.heap.size) := by rw [hX]; simp [Hid]
  have HF : Hid (Fl X) := hF.later HXw.out
  have SX : Hid (∀ W, Below X.heap.size X W → W.cell? ⟨ab, 3, none⟩ = some (.slice ea cs.length ec) ∧ W.cell? ⟨ab, 4, none⟩ = some (.pointer (some ⟨tb, 0, none⟩))) := fun W hb => ⟨cell_later hb (cell_later HXw.out h3), cell_later hb (cell_later HXw.out h4)⟩
  have SB : Hid (∀ W, Below X.heap.size X W → W.cell? ⟨w.heap.size, 0, none⟩ = some (.int .u32 la) ∧ W.cell? ⟨w.heap.size, 1, none⟩ = some (.int .u32 pa) ∧ W.cell? ⟨w.heap.size, 2, none⟩ = some (.bool true)) := fun W hb => by
    subst hX
    have h := blk_on hb (Blk.new w 44 #[.int .u32 la, .int .u32 pa, .bool true])
    exact ⟨h.cell 0, h.cell 1, h.cell 2⟩
  have HCV : Hid (∀ W, Below X.heap.size X W → CV W ea cs) := fun W hb => (hCV.later HXw.out).later hb
  obtain ⟨m, hm⟩ : ∃ m, m = cs.length := ⟨_, rfl⟩
  have HM : Hid (m = cs.length) := hm
  have j1 : (m : Int) ≤ 4096 := by omega
  have HWd : Hid (decide (la = pa) = false) := decide_eq_false hw
  have j2 : m = 0 := by omega
  subst j2
  rw [← hm] at h3 SX
  clear hF hla hcs h3 h4 hCV hc hm hw
  go_enter Tryf.func52, Tryf.ntmps52
  go_upto_region 1 with fail
  rw [← hX]
  clear hX
  have HR0 : Hid (Rw X X (.slice none 0 0) []) := ⟨OB.nil _ _ _, Below.refl _ _⟩
  have HLn0 : Hid (([] : List UInt8).length ≤ 0) := Nat.le_refl _
  go_wp2_with (first
    | (go_at_call 57; have _tok := HR6; refine (attr_rw X 22 _ (([] : List UInt8) ++ attr (flagOf 1) (1 : Nat) ([0]) ++ attr (flagOf 2) (2 : Nat) ([2, 1] ++ b4 la)) (some ⟨g22, 0, none⟩) (pmOct q).length q22 (pmOct q) _ HF.out (by exact HR6.out) (by decide) (by first | rfl | exact HVL) (Nat.le_trans HLn4.out (by decide)) (Nat.le_trans (m := 4101) (by have := HQ.out.2.2.2; simp [pmOct, b3]; omega) (by decide)) (by exact HV22.out) (fun h => by cases h) (fun k o h e => by cases h; exact HN22.out e)).mono ?_; rintro e w7 ⟨v7, rfl, hR, hE⟩; have HR7 := Hid.mk'' hR; have HLn7 : Hid ((([] : List UInt8) ++ attr (flagOf 1) (1 : Nat) ([0]) ++ attr (flagOf 2) (2 : Nat) ([2, 1] ++ b4 la) ++ attr (flagOf 22) (22 : Nat) (pmOct q)).length ≤ 15 + (4101 + 4)) := len_app HLn4.out (attr_le _ _ _ 4101 (by have := HQ.out.2.2.2; simp [pmOct, b3]; omega)); clear hR hE; obtain ⟨b0, b1, b2⟩ := SB.out _ HR7.out.below; obtain ⟨a3, a4c⟩ := SX.out _ HR7.out.below; have hs7 : w.heap.size < w7.heap.size := (Nat.lt_of_lt_of_le HXs.out HR7.out.below.size); have ht7 : ¬ w.heap.size = w7.heap.size := Nat.ne_of_lt hs7)
    | (go_at_call 62; have _tok := HR5; refine (pmsi_any tb q ta tc _ (by exact blk_on (HR5.out.below) (blk_on HXw.out HT.out)) (by exact (HTv.out.all HXw.out).all HR5.out.below) HTn.out HQ.out.1 HQ.out.2.1 HQ.out.2.2.1 (by have := HQ.out.2.2.2; omega)).mono ?_; rintro e w6 ⟨x6, rfl, hO, hb⟩; have HR6 := Hid.mk'' (HR5.out.later hb); obtain ⟨g22, q22, hx, hge⟩ : ∃ g q22, x6 = .slice (some ⟨g, 0, none⟩) (pmOct q).length q22 ∧ w5.heap.size ≤ g := (by rcases hO.form with h | ⟨g, c, h, h1, h2, _⟩; (exact absurd h.2 (by simp [pmOct])); exact ⟨g, c, h, h1⟩); subst hx; have HV22 : Hid (View w6 (some ⟨g22, 0, none⟩) (bc (pmOct q))) := view_row hO; have HN22 : Hid (v4.ownBlock ≠ some g22) := (fun e => by have := (HR5.out.row.lt _ e).2; omega); clear hO hb hge; obtain ⟨b0, b1, b2⟩ := SB.out _ HR6.out.below; obtain ⟨a3, a4c⟩ := SX.out _ HR6.out.below; have hs6 : w.heap.size < w6.heap.size := (Nat.lt_of_lt_of_le HXs.out HR6.out.below.size); have ht6 : ¬ w.heap.size = w6.heap.size := Nat.ne_of_lt hs6)
    | (go_at_call 61; have _tok := HR4; refine (internal_any la pa true false _ (by first | exact decide_eq_true rfl | exact HWd.out)).mono ?_; rintro e w5 ⟨rfl, hb⟩; have HR5 := Hid.mk'' (HR4.out.later hb); clear hb; obtain ⟨b0, b1, b2⟩ := SB.out _ HR5.out.below; obtain ⟨a3, a4c⟩ := SX.out _ HR5.out.below; have hs5 : w.heap.size < w5.heap.size := (Nat.lt_of_lt_of_le HXs.out HR5.out.below.size); have ht5 : ¬ w.heap.size = w5.heap.size := Nat.ne_of_lt hs5)
    | (go_at_call 57; have _tok := HR3; refine (attr_rw X 2 _ (([] : List UInt8) ++ attr (flagOf 1) (1 : Nat) ([0])) (some ⟨g2, 0, none⟩) 6 q2 ([2, 1] ++ b4 la) _ HF.out (by exact HR3.out) (by decide) (by first | rfl | exact HVL) (Nat.le_trans HLn1.out (by decide)) (Nat.le_trans (m := 6) (by simp [b4, be16]) (by decide)) (by exact HV2_3.out) (fun h => by cases h) (fun k o h e => by cases h; exact HN2_3.out e)).mono ?_; rintro e w4 ⟨v4, rfl, hR, hE⟩; have HR4 := Hid.mk'' hR; have HLn4 : Hid ((([] : List UInt8) ++ attr (flagOf 1) (1 : Nat) ([0]) ++ attr (flagOf 2) (2 : Nat) ([2, 1] ++ b4 la)).length ≤ 5 + (6 + 4)) := len_app HLn1.out (attr_le _ _ _ 6 (by simp [b4, be16])); clear hR hE; obtain ⟨b0, b1, b2⟩ := SB.out _ HR4.out.below; obtain ⟨a3, a4c⟩ := SX.out _ HR4.out.below; have hs4 : w.heap.size < w4.heap.size := (Nat.lt_of_lt_of_le HXs.out HR4.out.below.size); have ht4 : ¬ w.heap.size = w4.heap.size := Nat.ne_of_lt hs4)
    | (go_at_call 53; have _tok := HR2; refine (app32_any la w2.heap.size _ [2, 1] _ HA.out (by exact OB.lit _ 5 w2.heap.size w2.heap.size _ [2, 1] 2 rfl (Nat.le_refl _) rfl rfl (by unfold maxLen; omega)) (by simp) (by simp)).mono ?_; rintro e w3 ⟨x3, rfl, hO, hE, -⟩; have hb : Below w2.heap.size w2 w3 := (by have := hE.of_alloc.below (B := w2.heap.size) (Below.refl _ _) (Nat.le_refl _) (fun k h => by cases h; exact Nat.le_refl _); exact this); have HR3 := Hid.mk'' (HR2.out.later hb); obtain ⟨g2, q2, hx, hge, hlt, -, -⟩ : ∃ g q, x3 = .slice (some ⟨g, 0, none⟩) 6 q ∧ w2.heap.size ≤ g ∧ g < w3.heap.size ∧ True ∧ True := (by rcases hO.form with h | ⟨g, c, h, h1, h2, _⟩; (exact absurd h.2 (by simp [b4, be16])); exact ⟨g, c, h, h1, h2, trivial, trivial⟩); subst hx; have HV2_3 : Hid (View w3 (some ⟨g2, 0, none⟩) (bc ([2, 1] ++ b4 la))) := view_row hO; have HN2_3 : Hid (v1.ownBlock ≠ some g2) := (fun e => by have := (HR2.out.row.lt _ e).2; omega); clear hO hE hb hge hlt; obtain ⟨b0, b1, b2⟩ := SB.out _ HR3.out.below; obtain ⟨a3, a4c⟩ := SX.out _ HR3.out.below; have hs3 : w.heap.size < w3.heap.size := (Nat.lt_of_lt_of_le HXs.out HR3.out.below.size); have ht3 : ¬ w.heap.size = w3.heap.size := Nat.ne_of_lt hs3)
    | (go_at_call 61; have _tok := HR1; refine (internal_any la pa true false _ (by first | exact decide_eq_true rfl | exact HWd.out)).mono ?_; rintro e w2 ⟨rfl, hb⟩; have HR2 := Hid.mk'' (HR1.out.later hb); clear hb; obtain ⟨b0, b1, b2⟩ := SB.out _ HR2.out.below; obtain ⟨a3, a4c⟩ := SX.out _ HR2.out.below; have hs2 : w.heap.size < w2.heap.size := (Nat.lt_of_lt_of_le HXs.out HR2.out.below.size); have ht2 : ¬ w.heap.size = w2.heap.size := Nat.ne_of_lt hs2)
    | (go_at_call 57; have _tok := HR0; refine (attr_rw X 1 _ (([] : List UInt8)) (some ⟨X.heap.size, 0, none⟩) 1 1 ([0]) _ HF.out (by exact HR0.out.alloc _) (by decide) (by first | rfl | exact HVL) (Nat.le_trans HLn0.out (by decide)) (Nat.le_trans (m := 1) (by simp) (by decide)) (by exact lit_view _ [0] _ _ rfl rfl) (fun h => by cases h) (fun k o _ h => by cases h)).mono ?_; rintro e w1 ⟨v1, rfl, hR, hE⟩; have HR1 := Hid.mk'' hR; have HLn1 : Hid ((([] : List UInt8) ++ attr (flagOf 1) (1 : Nat) ([0])).length ≤ 0 + (1 + 4)) := len_app HLn0.out (attr_le _ _ _ 1 (by simp)); clear hR hE; obtain ⟨b0, b1, b2⟩ := SB.out _ HR1.out.below; obtain ⟨a3, a4c⟩ := SX.out _ HR1.out.below; have hs1 : w.heap.size < w1.heap.size := (Nat.lt_of_lt_of_le HXs.out HR1.out.below.size); have ht1 : ¬ w.heap.size = w1.heap.size := Nat.ne_of_lt hs1)
    | fail)
  go_ret
  refine ⟨_, rfl, ?_, HXw.out.trans (HR7.out.below.mono HXw.out.size)⟩
  have e := HRes.out
  rw [← e]
  exact HR7.out.row.base (fun k h => Nat.le_trans HXw.out.size (HR7.out.row.lt k h).1)

set_option maxRecDepth 100000 in
set_option maxHeartbeats 4000000 in
theorem path_a10 (ab la pa : Nat) (a4 : Bool) (ea : Option Addr) (ec : Nat) (cs : List (Nat → UInt8)) (tp : Option Addr) (pm : Option PI) (w : World) (hF : Fl w) (hla : la < 4294967296)
    (h3 : w.cell? ⟨ab, 3, none⟩ = some (.slice ea cs.length ec)) (h4 : w.cell? ⟨ab, 4, none⟩ = some (.pointer tp)) (hCV : CV w ea cs) (hTV : TV w tp pm) (hcs : cs.length ≤ 4096) (hpm : ∀ q, pm = some q → q.fl < 256 ∧ q.tt < 256 ∧ q.lb < 4294967296 ∧ q.tid.length ≤ 4096)
    (hw : ¬ la = pa ∧ a4 = true) (hc : ¬ cs.length = 0) (hp : pm = none) :
    Calls Tryf.prog 52 #[.pointer (some ⟨ab, 0, none⟩), .slice none 0 0, .agg #[.int .u32 la, .int .u32 pa, .bool a4]] w fun e w' => ∃ v', e = .returned v' ∧ OB 5 w.heap.size w' v' (avOf la pa a4 cs pm) ∧ Below w.heap.size w w' := by
  obtain ⟨i0, hi, hz0, hz1, hz2⟩ := info_parts Tryf.info5
  have HA := Hid.mk'' hla
  have HC := Hid.mk'' hcs
  obtain ⟨hw, rfl⟩ := hw
  have k1 : ¬ (la : Int) = (pa : Int) := by omega
  subst hp
  obtain rfl : tp = none := hTV
  clear hpm
  obtain ⟨eb, eo, rfl⟩ : ∃ eb eo, ea = some ⟨eb, eo, none⟩ := by
    rcases hCV with h | ⟨eb, eo, h, _⟩
    · exact absurd (by rw [h]; rfl) hc
    · exact ⟨eb, eo, h⟩
  have HRes : Hid (([] ++ attr (flagOf 1) (1 : Nat) [0] ++ attr (flagOf 2) (2 : Nat) ([2, 1] ++ b4 la)) ++ attr (flagOf 16) (16 : Nat) (coOct cs) = avOf la pa true cs none) := by
    have e1 : pathOct la pa true = [2, 1] ++ b4 la := by unfold pathOct; rw [if_neg hw, if_pos rfl]
    have e2 : p4Attr la pa true = [] := by unfold p4Attr; rw [if_neg hw, if_pos rfl]
    have e3 : coAttr cs = attr (flagOf 16) 16 (coOct cs) := by unfold coAttr; rw [if_neg hc]
    have e4 : pmAttr none = [] := rfl
    unfold avOf wkOct
    rw [e1, e2, e3, e4, if_neg hw]
    show _ = _
    simp only [List.nil_append, List.append_nil, List.append_assoc]
    rfl
  obtain ⟨X, hX⟩ : ∃ X, X = (w.alloc (.cells #[.int .u32 la, .int .u32 pa, .bool true] 44)) := ⟨_, rfl⟩
  have HXw : Hid (Below w.heap.size w X) := by rw [hX]; exact (Below.refl _ _).alloc (Nat.le_refl _) _
  have HXs : Hid (w.heap.size < X.heap.size) := by rw [hX]; simp [Hid]
  have HF : Hid (Fl X) := hF.later HXw.out
  have SX : Hid (∀ W, Below X.heap.size X W → W.cell? ⟨ab, 3, none⟩ = some (.slice (some ⟨eb, eo, none⟩) cs.length ec) ∧ W.cell? ⟨ab, 4, none⟩ = some (.pointer none)) := fun W hb => ⟨cell_later hb (cell_later HXw.out h3), cell_later hb (cell_later HXw.out h4)⟩
  have SB : Hid (∀ W, Below X.heap.size X W → W.cell? ⟨w.heap.size, 0, none⟩ = some (.int .u32 la) ∧ W.cell? ⟨w.heap.size, 1, none⟩ = some (.int .u32 pa) ∧ W.cell? ⟨w.heap.size, 2, none⟩ = some (.bool true)) := fun W hb => by
    subst hX
    have h := blk_on hb (Blk.new w 44 #[.int .u32 la, .int .u32 pa, .bool true])
    exact ⟨h.cell 0, h.cell 1, h.cell 2⟩
  have HCV : Hid (∀ W, Below X.heap.size X W → CV W (some ⟨eb, eo, none⟩) cs) := fun W hb => (hCV.later HXw.out).later hb
  obtain ⟨m, hm⟩ : ∃ m, m = cs.length := ⟨_, rfl⟩
  have HM : Hid (m = cs.length) := hm
  have j1 : (m : Int) ≤ 4096 := by omega
  have HWd : Hid (decide (la = pa) = false) := decide_eq_false hw
  have j2 : (0 : Int) < (m : Int) := by omega
  have j3 : 0 < m := by omega
  rw [← hm] at h3 SX
  clear hF hla hcs h3 h4 hCV hc hm hw
  go_enter Tryf.func52, Tryf.ntmps52
  go_upto_region 1 with fail
  rw [← hX]
  clear hX
  have HR0 : Hid (Rw X X (.slice none 0 0) []) := ⟨OB.nil _ _ _, Below.refl _ _⟩
  have HLn0 : Hid (([] : List UInt8).length ≤ 0) := Nat.le_refl _
  go_wp2_with (first
    | (go_at_call 61; have _tok := HR4; refine (internal_any la pa true false _ (by first | exact decide_eq_true rfl | exact HWd.out)).mono ?_; rintro e w5 ⟨rfl, hb⟩; have HR5 := Hid.mk'' (HR4.out.later hb); clear hb; obtain ⟨b0, b1, b2⟩ := SB.out _ HR5.out.below; obtain ⟨a3, a4c⟩ := SX.out _ HR5.out.below; have hs5 : w.heap.size < w5.heap.size := (Nat.lt_of_lt_of_le HXs.out HR5.out.below.size); have ht5 : ¬ w.heap.size = w5.heap.size := Nat.ne_of_lt hs5)
    | (go_at_call 57; have _tok := HR3; refine (attr_rw X 2 _ (([] : List UInt8) ++ attr (flagOf 1) (1 : Nat) ([0])) (some ⟨g2, 0, none⟩) 6 q2 ([2, 1] ++ b4 la) _ HF.out (by exact HR3.out) (by decide) (by first | rfl | exact HVL) (Nat.le_trans HLn1.out (by decide)) (Nat.le_trans (m := 6) (by simp [b4, be16]) (by decide)) (by exact HV2_3.out) (fun h => by cases h) (fun k o h e => by cases h; exact HN2_3.out e)).mono ?_; rintro e w4 ⟨v4, rfl, hR, hE⟩; have HR4 := Hid.mk'' hR; have HLn4 : Hid ((([] : List UInt8) ++ attr (flagOf 1) (1 : Nat) ([0]) ++ attr (flagOf 2) (2 : Nat) ([2, 1] ++ b4 la)).length ≤ 5 + (6 + 4)) := len_app HLn1.out (attr_le _ _ _ 6 (by simp [b4, be16])); clear hR hE; obtain ⟨b0, b1, b2⟩ := SB.out _ HR4.out.below; obtain ⟨a3, a4c⟩ := SX.out _ HR4.out.below; have hs4 : w.heap.size < w4.heap.size := (Nat.lt_of_lt_of_le HXs.out HR4.out.below.size); have ht4 : ¬ w.heap.size = w4.heap.size := Nat.ne_of_lt hs4)
    | (go_at_call 53; have _tok := HR2; refine (app32_any la w2.heap.size _ [2, 1] _ HA.out (by exact OB.lit _ 5 w2.heap.size w2.heap.size _ [2, 1] 2 rfl (Nat.le_refl _) rfl rfl (by unfold maxLen; omega)) (by simp) (by simp)).mono ?_; rintro e w3 ⟨x3, rfl, hO, hE, -⟩; have hb : Below w2.heap.size w2 w3 := (by have := hE.of_alloc.below (B := w2.heap.size) (Below.refl _ _) (Nat.le_refl _) (fun k h => by cases h; exact Nat.le_refl _); exact this); have HR3 := Hid.mk'' (HR2.out.later hb); obtain ⟨g2, q2, hx, hge, hlt, -, -⟩ : ∃ g q, x3 = .slice (some ⟨g, 0, none⟩) 6 q ∧ w2.heap.size ≤ g ∧ g < w3.heap.size ∧ True ∧ True := (by rcases hO.form with h | ⟨g, c, h, h1, h2, _⟩; (exact absurd h.2 (by simp [b4, be16])); exact ⟨g, c, h, h1, h2, trivial, trivial⟩); subst hx; have HV2_3 : Hid (View w3 (some ⟨g2, 0, none⟩) (bc ([2, 1] ++ b4 la))) := view_row hO; have HN2_3 : Hid (v1.ownBlock ≠ some g2) := (fun e => by have := (HR2.out.row.lt _ e).2; omega); clear hO hE hb hge hlt; obtain ⟨b0, b1, b2⟩ := SB.out _ HR3.out.below; obtain ⟨a3, a4c⟩ := SX.out _ HR3.out.below; have hs3 : w.heap.size < w3.heap.size := (Nat.lt_of_lt_of_le HXs.out HR3.out.below.size); have ht3 : ¬ w.heap.size = w3.heap.size := Nat.ne_of_lt hs3)
    | (go_at_call 61; have _tok := HR1; refine (internal_any la pa true false _ (by first | exact decide_eq_true rfl | exact HWd.out)).mono ?_; rintro e w2 ⟨rfl, hb⟩; have HR2 := Hid.mk'' (HR1.out.later hb); clear hb; obtain ⟨b0, b1, b2⟩ := SB.out _ HR2.out.below; obtain ⟨a3, a4c⟩ := SX.out _ HR2.out.below; have hs2 : w.heap.size < w2.heap.size := (Nat.lt_of_lt_of_le HXs.out HR2.out.below.size); have ht2 : ¬ w.heap.size = w2.heap.size := Nat.ne_of_lt hs2)
    | (go_at_call 57; have _tok := HR0; refine (attr_rw X 1 _ (([] : List UInt8)) (some ⟨X.heap.size, 0, none⟩) 1 1 ([0]) _ HF.out (by exact HR0.out.alloc _) (by decide) (by first | rfl | exact HVL) (Nat.le_trans HLn0.out (by decide)) (Nat.le_trans (m := 1) (by simp) (by decide)) (by exact lit_view _ [0] _ _ rfl rfl) (fun h => by cases h) (fun k o _ h => by cases h)).mono ?_; rintro e w1 ⟨v1, rfl, hR, hE⟩; have HR1 := Hid.mk'' hR; have HLn1 : Hid ((([] : List UInt8) ++ attr (flagOf 1) (1 : Nat) ([0])).length ≤ 0 + (1 + 4)) := len_app HLn0.out (attr_le _ _ _ 1 (by simp)); clear hR hE; obtain ⟨b0, b1, b2⟩ := SB.out _ HR1.out.below; obtain ⟨a3, a4c⟩ := SX.out _ HR1.out.below; have hs1 : w.heap.size < w1.heap.size := (Nat.lt_of_lt_of_le HXs.out HR1.out.below.size); have ht1 : ¬ w.heap.size = w1.heap.size := Nat.ne_of_lt hs1)
    | fail)
  go_loopw [9, 64] (fun v i wr => ∃ (k : Nat), k ≤ m ∧ i = .int .i64 k ∧ Hid (OB 5 w5.heap.size wr v (coOct (cs.take k))) ∧ Hid (Below w5.heap.size w5 wr)) (fun _ i _ => m - (intOf i).toNat)
  case atStart => exact ⟨0, Nat.zero_le _, rfl, OB.nil _ _ _, Below.refl _ _⟩
  case round =>
    obtain ⟨k, hk, rfl, HO, HBl⟩ := hrel
    by_cases hlt : k < m
    · obtain ⟨cz, hcz⟩ : ∃ cz, cs[k]? = some cz := ⟨_, List.getElem?_eq_getElem (by have := HM.out; omega)⟩
      have HCz := Hid.mk'' hcz
      obtain ⟨d0, d1, d2, d3, d4, d5, d6, d7⟩ := (HCV.out _ (HR5.out.below.trans (HBl.out.mono HR5.out.below.size))).at8 hcz
      have i1 : (0 : Int) ≤ (k : Int) := by omega
      have i2 : (k : Int) < (m : Int) := by omega
      have i3 := HO.out
      go_wp2_with (first
        | (at_builtin; go_must (refine wpList_append_any _ rfl (.tmp 68) (.tmp 69) 23 23 rfl w5.heap.size 5 i0 (.int .u8 0) 1 1 Tryf.underlying23 hi hz0 hz1 hz2 rfl _ (coOct (cs.take k)).length (bc (coOct (cs.take k))) (by rfl) (by exact HO.out.alloc _) _ 8 (bc (o8 cz)) (by rfl) (Src.litH _ Tryf.underlying23 (o8 cz) _ 8 8 70 wr.heap.size (by simp) rfl rfl) (by have := HC.out; rw [coOct_len, List.length_take]; unfold maxLen; omega) (by have := HC.out; rw [coOct_len, List.length_take]; omega) (by have := HBl.out.size; simp; omega) ?_); intro v2 w2 hown hext _ _)
        | fail)
      have HO2 : Hid (OB 5 w5.heap.size w2 v2 (coOct (cs.take (k + 1)))) := by rw [Hid, co_take HCz.out]; exact OB.app hown rfl
      have HB2 : Hid (Below w5.heap.size w5 w2) := hext.of_alloc.below HBl.out HBl.out.size (fun g h => (HO.out.lt g h).1)
      go_roundw
      case rel => exact ⟨k + 1, by omega, by go_num, HO2, HB2⟩
      case measure => simp [intOf]; omega
    · obtain rfl : k = m := by omega
      have HO3 : Hid (OB 5 w5.heap.size wr u9 (coOct cs)) := by have h := HO.out; rw [HM.out, List.take_length] at h; exact h
      have HR6 := Hid.mk'' (HR5.out.later HBl.out)
      obtain ⟨g16, q16, hx, hge⟩ : ∃ g q16, u9 = Value.slice (some ⟨g, 0, none⟩) (coOct cs).length q16 ∧ w5.heap.size ≤ g := by
        rcases HO3.out.form with h | ⟨g, c, h, h1, h2, _⟩
        · exact absurd (congrArg List.length h.2) (by rw [coOct_len]; simp; have := HM.out; omega)
        · exact ⟨g, c, h, h1⟩
      subst hx
      have HV16 : Hid (View wr (some ⟨g16, 0, none⟩) (bc (coOct cs))) := view_row HO3.out
      have HN16 : Hid (v4.ownBlock ≠ some g16) := fun e => by have := (HR5.out.row.lt _ e).2; omega
      obtain ⟨b0, b1, b2⟩ := SB.out _ HR6.out.below
      obtain ⟨a3, a4c⟩ := SX.out _ HR6.out.below
      have hs6 : w.heap.size < wr.heap.size := (Nat.lt_of_lt_of_le HXs.out HR6.out.below.size)
      have ht6 : ¬ w.heap.size = wr.heap.size := Nat.ne_of_lt hs6
      go_wp2_with (first
        | (go_at_call 57; have _tok := HR6; refine (attr_rw X 16 _ (([] : List UInt8) ++ attr (flagOf 1) (1 : Nat) ([0]) ++ attr (flagOf 2) (2 : Nat) ([2, 1] ++ b4 la)) (some ⟨g16, 0, none⟩) (coOct cs).length q16 (coOct cs) _ HF.out (by exact HR6.out) (by decide) (by first | rfl | exact HVL) (Nat.le_trans HLn4.out (by decide)) (Nat.le_trans (m := 32768) (by have := HC.out; rw [coOct_len]; omega) (by decide)) (by exact HV16.out) (fun h => by cases h) (fun k o h e => by cases h; exact HN16.out e)).mono ?_; rintro e w7 ⟨v7, rfl, hR, hE⟩; have HR7 := Hid.mk'' hR; have HLn7 : Hid ((([] : List UInt8) ++ attr (flagOf 1) (1 : Nat) ([0]) ++ attr (flagOf 2) (2 : Nat) ([2, 1] ++ b4 la) ++ attr (flagOf 16) (16 : Nat) (coOct cs)).length ≤ 15 + (32768 + 4)) := len_app HLn4.out (attr_le _ _ _ 32768 (by have := HC.out; rw [coOct_len]; omega)); clear hR hE; obtain ⟨b0, b1, b2⟩ := SB.out _ HR7.out.below; obtain ⟨a3, a4c⟩ := SX.out _ HR7.out.below; have hs7 : w.heap.size < w7.heap.size := (Nat.lt_of_lt_of_le HXs.out HR7.out.below.size); have ht7 : ¬ w.heap.size = w7.heap.size := Nat.ne_of_lt hs7)
        | fail)
      go_ret
      refine ⟨_, rfl, ?_, HXw.out.trans (HR7.out.below.mono HXw.out.size)⟩
      have e := HRes.out
      rw [← e]
      exact HR7.out.row.base (fun k h => Nat.le_trans HXw.out.size (HR7.out.row.lt k h).1)

set_option maxRecDepth 100000 in
set_option maxHeartbeats 4000000 in
theorem path_a11 (ab la pa : Nat) (a4 : Bool) (ea : Option Addr) (ec : Nat) (cs : List (Nat → UInt8)) (tp : Option Addr) (pm : Option PI) (w : World) (hF : Fl w) (hla : la < 4294967296)
    (h3 : w.cell? ⟨ab, 3, none⟩ = some (.slice ea cs.length ec)) (h4 : w.cell? ⟨ab, 4, none⟩ = some (.pointer tp)) (hCV : CV w ea cs) (hTV : TV w tp pm) (hcs : cs.length ≤ 4096) (hpm : ∀ q, pm = some q → q.fl < 256 ∧ q.tt < 256 ∧ q.lb < 4294967296 ∧ q.tid.length ≤ 4096)
    (hw : ¬ la = pa ∧ a4 = true) (hc : ¬ cs.length = 0) (hp : pm ≠ none) :
    Calls Tryf.prog 52 #[.pointer (some ⟨ab, 0, none⟩), .slice none 0 0, .agg #[.int .u32 la, .int .u32 pa, .bool a4]] w fun e w' => ∃ v', e = .returned v' ∧ OB 5 w.heap.size w' v' (avOf la pa a4 cs pm) ∧ Below w.heap.size w w' := by
  obtain ⟨i0, hi, hz0, hz1, hz2⟩ := info_parts Tryf.info5
  have HA := Hid.mk'' hla
  have HC := Hid.mk'' hcs
  obtain ⟨hw, rfl⟩ := hw
  have k1 : ¬ (la : Int) = (pa : Int) := by omega
  obtain ⟨q, rfl⟩ : ∃ q, pm = some q := by cases pm with | none => exact absurd rfl hp | some q => exact ⟨q, rfl⟩
  obtain ⟨tb, ta, tc, rfl, hT, hTv, hTn⟩ := hTV
  have HT := Hid.mk'' hT
  have HTv := Hid.mk'' hTv
  have HTn := Hid.mk'' hTn
  have HQ := Hid.mk'' (hpm q rfl)
  clear hT hTv hTn hpm hp
  obtain ⟨eb, eo, rfl⟩ : ∃ eb eo, ea = some ⟨eb, eo, none⟩ := by
    rcases hCV with h | ⟨eb, eo, h, _⟩
    · exact absurd (by rw [h]; rfl) hc
    · exact ⟨eb, eo, h⟩
  have HRes : Hid (([] ++ attr (flagOf 1) (1 : Nat) [0] ++ attr (flagOf 2) (2 : Nat) ([2, 1] ++ b4 la)) ++ attr (flagOf 16) (16 : Nat) (coOct cs) ++ attr (flagOf 22) (22 : Nat) (pmOct q) = avOf la pa true cs (some q)) := by
    have e1 : pathOct la pa true = [2, 1] ++ b4 la := by unfold pathOct; rw [if_neg hw, if_pos rfl]
    have e2 : p4Attr la pa true = [] := by unfold p4Attr; rw [if_neg hw, if_pos rfl]
    have e3 : coAttr cs = attr (flagOf 16) 16 (coOct cs) := by unfold coAttr; rw [if_neg hc]
    have e4 : pmAttr (some q) = attr (flagOf 22) 22 (pmOct q) := rfl
    unfold avOf wkOct
    rw [e1, e2, e3, e4, if_neg hw]
    show _ = _
    simp only [List.nil_append, List.append_nil, List.append_assoc]
    rfl
  obtain ⟨X, hX⟩ : ∃ X, X = (w.alloc (.cells #[.int .u32 la, .int .u32 pa, .bool true] 44)) := ⟨_, rfl⟩
  have HXw : Hid (Below w.heap.size w X) := by rw [hX]; exact (Below.refl _ _).alloc (Nat.le_refl _) _
  have HXs : Hid (w.heap.size < X.heap.size) := by rw [hX]; simp [Hid]
  have HF : Hid (Fl X) := hF.later HXw.out
  have SX : Hid (∀ W, Below X.heap.size X W → W.cell? ⟨ab, 3, none⟩ = some (.slice (some ⟨eb, eo, none⟩) cs.length ec) ∧ W.cell? ⟨ab, 4, none⟩ = some (.pointer (some ⟨tb, 0, none⟩))) := fun W hb => ⟨cell_later hb (cell_later HXw.out h3), cell_later hb (cell_later HXw.out h4)⟩
  have SB : Hid (∀ W, Below X.heap.size X W → W.cell? ⟨w.heap.size, 0, none⟩ = some (.int .u32 la) ∧ W.cell? ⟨w.heap.size, 1, none⟩ = some (.int .u32 pa) ∧ W.cell? ⟨w.heap.size, 2, none⟩ = some (.bool true)) := fun W hb => by
    subst hX
    have h := blk_on hb (Blk.new w 44 #[.int .u32 la, .int .u32 pa, .bool true])
    exact ⟨h.cell 0, h.cell 1, h.cell 2⟩
  have HCV : Hid (∀ W, Below X.heap.size X W → CV W (some ⟨eb, eo, none⟩) cs) := fun W hb => (hCV.later HXw.out).later hb
  obtain ⟨m, hm⟩ : ∃ m, m = cs.length := ⟨_, rfl⟩
  have HM : Hid (m = cs.length) := hm
  have j1 : (m : Int) ≤ 4096 := by omega
  have HWd : Hid (decide (la = pa) = false) := decide_eq_false hw
  have j2 : (0 : Int) < (m : Int) := by omega
  have j3 : 0 < m := by omega
  rw [← hm] at h3 SX
  clear hF hla hcs h3 h4 hCV hc hm hw
  go_enter Tryf.func52, Tryf.ntmps52
  go_upto_region 1 with fail
  rw [← hX]
  clear hX
  have HR0 : Hid (Rw X X (.slice none 0 0) []) := ⟨OB.nil _ _ _, Below.refl _ _⟩
  have HLn0 : Hid (([] : List UInt8).length ≤ 0) := Nat.le_refl _
  go_wp2_with (first
    | (go_at_call 61; have _tok := HR4; refine (internal_any la pa true false _ (by first | exact decide_eq_true rfl | exact HWd.out)).mono ?_; rintro e w5 ⟨rfl, hb⟩; have HR5 := Hid.mk'' (HR4.out.later hb); clear hb; obtain ⟨b0, b1, b2⟩ := SB.out _ HR5.out.below; obtain ⟨a3, a4c⟩ := SX.out _ HR5.out.below; have hs5 : w.heap.size < w5.heap.size := (Nat.lt_of_lt_of_le HXs.out HR5.out.below.size); have ht5 : ¬ w.heap.size = w5.heap.size := Nat.ne_of_lt hs5)
    | (go_at_call 57; have _tok := HR3; refine (attr_rw X 2 _ (([] : List UInt8) ++ attr (flagOf 1) (1 : Nat) ([0])) (some ⟨g2, 0, none⟩) 6 q2 ([2, 1] ++ b4 la) _ HF.out (by exact HR3.out) (by decide) (by first | rfl | exact HVL) (Nat.le_trans HLn1.out (by decide)) (Nat.le_trans (m := 6) (by simp [b4, be16]) (by decide)) (by exact HV2_3.out) (fun h => by cases h) (fun k o h e => by cases h; exact HN2_3.out e)).mono ?_; rintro e w4 ⟨v4, rfl, hR, hE⟩; have HR4 := Hid.mk'' hR; have HLn4 : Hid ((([] : List UInt8) ++ attr (flagOf 1) (1 : Nat) ([0]) ++ attr (flagOf 2) (2 : Nat) ([2, 1] ++ b4 la)).length ≤ 5 + (6 + 4)) := len_app HLn1.out (attr_le _ _ _ 6 (by simp [b4, be16])); clear hR hE; obtain ⟨b0, b1, b2⟩ := SB.out _ HR4.out.below; obtain ⟨a3, a4c⟩ := SX.out _ HR4.out.below; have hs4 : w.heap.size < w4.heap.size := (Nat.lt_of_lt_of_le HXs.out HR4.out.below.size); have ht4 : ¬ w.heap.size = w4.heap.size := Nat.ne_of_lt hs4)
    | (go_at_call 53; have _tok := HR2; refine (app32_any la w2.heap.size _ [2, 1] _ HA.out (by exact OB.lit _ 5 w2.heap.size w2.heap.size _ [2, 1] 2 rfl (Nat.le_refl _) rfl rfl (by unfold maxLen; omega)) (by simp) (by simp)).mono ?_; rintro e w3 ⟨x3, rfl, hO, hE, -⟩; have hb : Below w2.heap.size w2 w3 := (by have := hE.of_alloc.below (B := w2.heap.size) (Below.refl _ _) (Nat.le_refl _) (fun k h => by cases h; exact Nat.le_refl _); exact this); have HR3 := Hid.mk'' (HR2.out.later hb); obtain ⟨g2, q2, hx, hge, hlt, -, -⟩ : ∃ g q, x3 = .slice (some ⟨g, 0, none⟩) 6 q ∧ w2.heap.size ≤ g ∧ g < w3.heap.size ∧ True ∧ True := (by rcases hO.form with h | ⟨g, c, h, h1, h2, _⟩; (exact absurd h.2 (by simp [b4, be16])); exact ⟨g, c, h, h1, h2, trivial, trivial⟩); subst hx; have HV2_3 : Hid (View w3 (some ⟨g2, 0, none⟩) (bc ([2, 1] ++ b4 la))) := view_row hO; have HN2_3 : Hid (v1.ownBlock ≠ some g2) := (fun e => by have := (HR2.out.row.lt _ e).2; omega); clear hO hE hb hge hlt; obtain ⟨b0, b1, b2⟩ := SB.out _ HR3.out.below; obtain ⟨a3, a4c⟩ := SX.out _ HR3.out.below; have hs3 : w.heap.size < w3.heap.size := (Nat.lt_of_lt_of_le HXs.out HR3.out.below.size); have ht3 : ¬ w.heap.size = w3.heap.size := Nat.ne_of_lt hs3)
    | (go_at_call 61; have _tok := HR1; refine (internal_any la pa true false _ (by first | exact decide_eq_true rfl | exact HWd.out)).mono ?_; rintro e w2 ⟨rfl, hb⟩; have HR2 := Hid.mk'' (HR1.out.later hb); clear hb; obtain ⟨b0, b1, b2⟩ := SB.out _ HR2.out.below; obtain ⟨a3, a4c⟩ := SX.out _ HR2.out.below; have hs2 : w.heap.size < w2.heap.size := (Nat.lt_of_lt_of_le HXs.out HR2.out.below.size); have ht2 : ¬ w.heap.size = w2.heap.size := Nat.ne_of_lt hs2)
    | (go_at_call 57; have _tok := HR0; refine (attr_rw X 1 _ (([] : List UInt8)) (some ⟨X.heap.size, 0, none⟩) 1 1 ([0]) _ HF.out (by exact HR0.out.alloc _) (by decide) (by first | rfl | exact HVL) (Nat.le_trans HLn0.out (by decide)) (Nat.le_trans (m := 1) (by simp) (by decide)) (by exact lit_view _ [0] _ _ rfl rfl) (fun h => by cases h) (fun k o _ h => by cases h)).mono ?_; rintro e w1 ⟨v1, rfl, hR, hE⟩; have HR1 := Hid.mk'' hR; have HLn1 : Hid ((([] : List UInt8) ++ attr (flagOf 1) (1 : Nat) ([0])).length ≤ 0 + (1 + 4)) := len_app HLn0.out (attr_le _ _ _ 1 (by simp)); clear hR hE; obtain ⟨b0, b1, b2⟩ := SB.out _ HR1.out.below; obtain ⟨a3, a4c⟩ := SX.out _ HR1.out.below; have hs1 : w.heap.size < w1.heap.size := (Nat.lt_of_lt_of_le HXs.out HR1.out.below.size); have ht1 : ¬ w.heap.size = w1.heap.size := Nat.ne_of_lt hs1)
    | fail)
  go_loopw [9, 64] (fun v i wr => ∃ (k : Nat), k ≤ m ∧ i = .int .i64 k ∧ Hid (OB 5 w5.heap.size wr v (coOct (cs.take k))) ∧ Hid (Below w5.heap.size w5 wr)) (fun _ i _ => m - (intOf i).toNat)
  case atStart => exact ⟨0, Nat.zero_le _, rfl, OB.nil _ _ _, Below.refl _ _⟩
  case round =>
    obtain ⟨k, hk, rfl, HO, HBl⟩ := hrel
    by_cases hlt : k < m
    · obtain ⟨cz, hcz⟩ : ∃ cz, cs[k]? = some cz := ⟨_, List.getElem?_eq_getElem (by have := HM.out; omega)⟩
      have HCz := Hid.mk'' hcz
      obtain ⟨d0, d1, d2, d3, d4, d5, d6, d7⟩ := (HCV.out _ (HR5.out.below.trans (HBl.out.mono HR5.out.below.size))).at8 hcz
      have i1 : (0 : Int) ≤ (k : Int) := by omega
      have i2 : (k : Int) < (m : Int) := by omega
      have i3 := HO.out
      go_wp2_with (first
        | (at_builtin; go_must (refine wpList_append_any _ rfl (.tmp 68) (.tmp 69) 23 23 rfl w5.heap.size 5 i0 (.int .u8 0) 1 1 Tryf.underlying23 hi hz0 hz1 hz2 rfl _ (coOct (cs.take k)).length (bc (coOct (cs.take k))) (by rfl) (by exact HO.out.alloc _) _ 8 (bc (o8 cz)) (by rfl) (Src.litH _ Tryf.underlying23 (o8 cz) _ 8 8 70 wr.heap.size (by simp) rfl rfl) (by have := HC.out; rw [coOct_len, List.length_take]; unfold maxLen; omega) (by have := HC.out; rw [coOct_len, List.length_take]; omega) (by have := HBl.out.size; simp; omega) ?_); intro v2 w2 hown hext _ _)
        | fail)
      have HO2 : Hid (OB 5 w5.heap.size w2 v2 (coOct (cs.take (k + 1)))) := by rw [Hid, co_take HCz.out]; exact OB.app hown rfl
      have HB2 : Hid (Below w5.heap.size w5 w2) := hext.of_alloc.below HBl.out HBl.out.size (fun g h => (HO.out.lt g h).1)
      go_roundw
      case rel => exact ⟨k + 1, by omega, by go_num, HO2, HB2⟩
      case measure => simp [intOf]; omega
    · obtain rfl : k = m := by omega
      have HO3 : Hid (OB 5 w5.heap.size wr u9 (coOct cs)) := by have h := HO.out; rw [HM.out, List.take_length] at h; exact h
      have HR6 := Hid.mk'' (HR5.out.later HBl.out)
      obtain ⟨g16, q16, hx, hge⟩ : ∃ g q16, u9 = Value.slice (some ⟨g, 0, none⟩) (coOct cs).length q16 ∧ w5.heap.size ≤ g := by
        rcases HO3.out.form with h | ⟨g, c, h, h1, h2, _⟩
        · exact absurd (congrArg List.length h.2) (by rw [coOct_len]; simp; have := HM.out; omega)
        · exact ⟨g, c, h, h1⟩
      subst hx
      have HV16 : Hid (View wr (some ⟨g16, 0, none⟩) (bc (coOct cs))) := view_row HO3.out
      have HN16 : Hid (v4.ownBlock ≠ some g16) := fun e => by have := (HR5.out.row.lt _ e).2; omega
      obtain ⟨b0, b1, b2⟩ := SB.out _ HR6.out.below
      obtain ⟨a3, a4c⟩ := SX.out _ HR6.out.below
      have hs6 : w.heap.size < wr.heap.size := (Nat.lt_of_lt_of_le HXs.out HR6.out.below.size)
      have ht6 : ¬ w.heap.size = wr.heap.size := Nat.ne_of_lt hs6
      go_wp2_with (first
        | (go_at_call 57; have _tok := HR8; refine (attr_rw X 22 _ (([] : List UInt8) ++ attr (flagOf 1) (1 : Nat) ([0]) ++ attr (flagOf 2) (2 : Nat) ([2, 1] ++ b4 la) ++ attr (flagOf 16) (16 : Nat) (coOct cs)) (some ⟨g22, 0, none⟩) (pmOct q).length q22 (pmOct q) _ HF.out (by exact HR8.out) (by decide) (by first | rfl | exact HVL) (Nat.le_trans HLn7.out (by decide)) (Nat.le_trans (m := 4101) (by have := HQ.out.2.2.2; simp [pmOct, b3]; omega) (by decide)) (by exact HV22.out) (fun h => by cases h) (fun k o h e => by cases h; exact HN22.out e)).mono ?_; rintro e w9 ⟨v9, rfl, hR, hE⟩; have HR9 := Hid.mk'' hR; have HLn9 : Hid ((([] : List UInt8) ++ attr (flagOf 1) (1 : Nat) ([0]) ++ attr (flagOf 2) (2 : Nat) ([2, 1] ++ b4 la) ++ attr (flagOf 16) (16 : Nat) (coOct cs) ++ attr (flagOf 22) (22 : Nat) (pmOct q)).length ≤ 32787 + (4101 + 4)) := len_app HLn7.out (attr_le _ _ _ 4101 (by have := HQ.out.2.2.2; simp [pmOct, b3]; omega)); clear hR hE; obtain ⟨b0, b1, b2⟩ := SB.out _ HR9.out.below; obtain ⟨a3, a4c⟩ := SX.out _ HR9.out.below; have hs9 : w.heap.size < w9.heap.size := (Nat.lt_of_lt_of_le HXs.out HR9.out.below.size); have ht9 : ¬ w.heap.size = w9.heap.size := Nat.ne_of_lt hs9)
        | (go_at_call 62; have _tok := HR7; refine (pmsi_any tb q ta tc _ (by exact blk_on (HR7.out.below) (blk_on HXw.out HT.out)) (by exact (HTv.out.all HXw.out).all HR7.out.below) HTn.out HQ.out.1 HQ.out.2.1 HQ.out.2.2.1 (by have := HQ.out.2.2.2; omega)).mono ?_; rintro e w8 ⟨x8, rfl, hO, hb⟩; have HR8 := Hid.mk'' (HR7.out.later hb); obtain ⟨g22, q22, hx, hge⟩ : ∃ g q22, x8 = .slice (some ⟨g, 0, none⟩) (pmOct q).length q22 ∧ w7.heap.size ≤ g := (by rcases hO.form with h | ⟨g, c, h, h1, h2, _⟩; (exact absurd h.2 (by simp [pmOct])); exact ⟨g, c, h, h1⟩); subst hx; have HV22 : Hid (View w8 (some ⟨g22, 0, none⟩) (bc (pmOct q))) := view_row hO; have HN22 : Hid (v7.ownBlock ≠ some g22) := (fun e => by have := (HR7.out.row.lt _ e).2; omega); clear hO hb hge; obtain ⟨b0, b1, b2⟩ := SB.out _ HR8.out.below; obtain ⟨a3, a4c⟩ := SX.out _ HR8.out.below; have hs8 : w.heap.size < w8.heap.size := (Nat.lt_of_lt_of_le HXs.out HR8.out.below.size); have ht8 : ¬ w.heap.size = w8.heap.size := Nat.ne_of_lt hs8)
        | (go_at_call 57; have _tok := HR6; refine (attr_rw X 16 _ (([] : List UInt8) ++ attr (flagOf 1) (1 : Nat) ([0]) ++ attr (flagOf 2) (2 : Nat) ([2, 1] ++ b4 la)) (some ⟨g16, 0, none⟩) (coOct cs).length q16 (coOct cs) _ HF.out (by exact HR6.out) (by decide) (by first | rfl | exact HVL) (Nat.le_trans HLn4.out (by decide)) (Nat.le_trans (m := 32768) (by have := HC.out; rw [coOct_len]; omega) (by decide)) (by exact HV16.out) (fun h => by cases h) (fun k o h e => by cases h; exact HN16.out e)).mono ?_; rintro e w7 ⟨v7, rfl, hR, hE⟩; have HR7 := Hid.mk'' hR; have HLn7 : Hid ((([] : List UInt8) ++ attr (flagOf 1) (1 : Nat) ([0]) ++ attr (flagOf 2) (2 : Nat) ([2, 1] ++ b4 la) ++ attr (flagOf 16) (16 : Nat) (coOct cs)).length ≤ 15 + (32768 + 4)) := len_app HLn4.out (attr_le _ _ _ 32768 (by have := HC.out; rw [coOct_len]; omega)); clear hR hE; obtain ⟨b0, b1, b2⟩ := SB.out _ HR7.out.below; obtain ⟨a3, a4c⟩ := SX.out _ HR7.out.below; have hs7 : w.heap.size < w7.heap.size := (Nat.lt_of_lt_of_le HXs.out HR7.out.below.size); have ht7 : ¬ w.heap.size = w7.heap.size := Nat.ne_of_lt hs7)
        | fail)
      go_ret
      refine ⟨_, rfl, ?_, HXw.out.trans (HR9.out.below.mono HXw.out.size)⟩
      have e := HRes.out
      rw [← e]
      exact HR9.out.row.base (fun k h => Nat.le_trans HXw.out.size (HR9.out.row.lt k h).1)

end Go.Proofs.Qxb6003713aFmt
