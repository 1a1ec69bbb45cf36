import Derived.Test.Qxb6003713aFmtAnM
import Derived.Test.Qxb6003713aFmtAnN
namespace Go.Proofs.Qxb6003713aFmt
open Go.RowKit
set_option linter.unusedVariables false
set_option linter.unusedSimpArgs false

theorem path_any (ab la pa : Nat) (a4 : Bool) (ea : Option Addr) (ec : Nat) (cs : List (Nat → UInt8)) (tp : Option Addr) (pm : Option PI) (w : World) (hF : Fl w) (hla : la < 4294967296)
    (h3 : w.cell? ⟨ab, 3, none⟩ = some (.slice ea cs.length ec)) (h4 : w.cell? ⟨ab, 4, none⟩ = some (.pointer tp)) (hCV : CV w ea cs) (hTV : TV w tp pm) (hcs : cs.length ≤ 4096) (hpm : ∀ q, pm = some q → q.fl < 256 ∧ q.tt < 256 ∧ q.lb < 4294967296 ∧ q.tid.length ≤ 4096) :
    Calls Tryf.prog 52 #[.pointer (some ⟨ab, 0, none⟩), .slice none 0 0, .agg #[.int .u32 la, .int .u32 pa, .bool a4]] w fun e w' => ∃ v', e = .returned v' ∧ OB 5 w.heap.size w' v' (avOf la pa a4 cs pm) ∧ Below w.heap.size w w' := by
  by_cases hw : la = pa
  · by_cases hc : cs.length = 0
    · by_cases hp : pm = none
      · exact path_i00 ab la pa a4 ea ec cs tp pm w hF hla h3 h4 hCV hTV hcs hpm hw hc hp
      · exact path_i01 ab la pa a4 ea ec cs tp pm w hF hla h3 h4 hCV hTV hcs hpm hw hc hp
    · by_cases hp : pm = none
      · exact path_i10 ab la pa a4 ea ec cs tp pm w hF hla h3 h4 hCV hTV hcs hpm hw hc hp
      · exact path_i11 ab la pa a4 ea ec cs tp pm w hF hla h3 h4 hCV hTV hcs hpm hw hc hp
  · cases ha : a4
    · by_cases hl : la ≤ 65535
      · by_cases hc : cs.length = 0
        · by_cases hp : pm = none
          · exact path_l00 ab la pa false ea ec cs tp pm w hF hla h3 h4 hCV hTV hcs hpm ⟨⟨hw, rfl⟩, hl⟩ hc hp
          · exact path_l01 ab la pa false ea ec cs tp pm w hF hla h3 h4 hCV hTV hcs hpm ⟨⟨hw, rfl⟩, hl⟩ hc hp
        · by_cases hp : pm = none
          · exact path_l10 ab la pa false ea ec cs tp pm w hF hla h3 h4 hCV hTV hcs hpm ⟨⟨hw, rfl⟩, hl⟩ hc hp
          · exact path_l11 ab la pa false ea ec cs tp pm w hF hla h3 h4 hCV hTV hcs hpm ⟨⟨hw, rfl⟩, hl⟩ hc hp
      · by_cases hc : cs.length = 0
        · by_cases hp : pm = none
          · exact path_d00 ab la pa false ea ec cs tp pm w hF hla h3 h4 hCV hTV hcs hpm ⟨⟨hw, rfl⟩, hl⟩ hc hp
          · exact path_d01 ab la pa false ea ec cs tp pm w hF hla h3 h4 hCV hTV hcs hpm ⟨⟨hw, rfl⟩, hl⟩ hc hp
        · by_cases hp : pm = none
          · exact path_d10 ab la pa false ea ec cs tp pm w hF hla h3 h4 hCV hTV hcs hpm ⟨⟨hw, rfl⟩, hl⟩ hc hp
          · exact path_d11 ab la pa false ea ec cs tp pm w hF hla h3 h4 hCV hTV hcs hpm ⟨⟨hw, rfl⟩, hl⟩ hc hp
    · by_cases hc : cs.length = 0
      · by_cases hp : pm = none
        · exact path_a00 ab la pa true ea ec cs tp pm w hF hla h3 h4 hCV hTV hcs hpm ⟨hw, rfl⟩ hc hp
        · exact path_a01 ab la pa true ea ec cs tp pm w hF hla h3 h4 hCV hTV hcs hpm ⟨hw, rfl⟩ hc hp
      · by_cases hp : pm = none
        · exact path_a10 ab la pa true ea ec cs tp pm w hF hla h3 h4 hCV hTV hcs hpm ⟨hw, rfl⟩ hc hp
        · exact path_a11 ab la pa true ea ec cs tp pm w hF hla h3 h4 hCV hTV hcs hpm ⟨hw, rfl⟩ hc hp

/-- The fixed part of MP_REACH_NLRI. -/
def fxOf (n : Nat) (o : Nat → UInt8) : List UInt8 := [0, 25, 70] ++ [by8 n] ++ octOf n o ++ [0]
theorem fxOf_len (n : Nat) (o : Nat → UInt8) (h : n = 4 ∨ n = 16) : (fxOf n o).length = 5 + n := by
  unfold fxOf
  have := octOf_len n o (by omega)
  simp [this]; omega

/-- The attributes, as NewAnnouncer and Marshal find them. -/
structure AT (w : World) (ab n : Nat) (o : Nat → UInt8) (p4 p6 : Addr) (ea : Option Addr) (ec : Nat) (cs : List (Nat → UInt8)) (tp : Option Addr) (pm : Option PI) : Prop where
  c0 : w.cell? ⟨ab, 0, none⟩ = some (.int .u64 (aHi n o : Nat))
  c1 : w.cell? ⟨ab, 1, none⟩ = some (.int .u64 (aLo n o : Nat))
  c2 : w.cell? ⟨ab, 2, none⟩ = some (.pointer (aZ p4 p6 n))
  c3 : w.cell? ⟨ab, 3, none⟩ = some (.slice ea cs.length ec)
  c4 : w.cell? ⟨ab, 4, none⟩ = some (.pointer tp)
  cv : CV w ea cs
  tv : TV w tp pm
theorem AT.later {w w' : World} {ab n : Nat} {o : Nat → UInt8} {p4 p6 : Addr} {ea : Option Addr} {ec : Nat} {cs : List (Nat → UInt8)} {tp : Option Addr} {pm : Option PI} (h : AT w ab n o p4 p6 ea ec cs tp pm) (hb : Below w.heap.size w w') : AT w' ab n o p4 p6 ea ec cs tp pm :=
  ⟨cell_later hb h.c0, cell_later hb h.c1, cell_later hb h.c2, cell_later hb h.c3, cell_later hb h.c4, h.cv.later hb, h.tv.later hb⟩

/-- The plain bounds. -/
structure Bd (n la : Nat) (cs : List (Nat → UInt8)) (pm : Option PI) : Prop where
  n : n = 4 ∨ n = 16
  la : la < 4294967296
  cs : cs.length ≤ 4096
  pm : ∀ q, pm = some q → q.fl < 256 ∧ q.tt < 256 ∧ q.lb < 4294967296 ∧ q.tid.length ≤ 4096

/-- A packer that reachPacker made. -/
def Packed (n la pa : Nat) (a4 : Bool) (o : Nat → UInt8) (cs : List (Nat → UInt8)) (pm : Option PI) (w wl : World) (fa : Option Addr) (cf : Nat) (aa : Option Addr) (ca : Nat) : Prop :=
  View wl fa (bc (fxOf n o)) ∧ (fxOf n o).length ≤ cf ∧ cf ≤ maxLen ∧ (∃ g, fa = some ⟨g, 0, none⟩) ∧ View wl aa (bc (avOf la pa a4 cs pm)) ∧ (aa = none → avOf la pa a4 cs pm = []) ∧ (∀ k o', aa = some ⟨k, o', none⟩ → k < wl.heap.size) ∧ Below w.heap.size w wl

set_option maxRecDepth 100000 in
set_option maxHeartbeats 4000000 in
theorem reach_any (ab n la pa : Nat) (a4 : Bool) (o : Nat → UInt8) (p4 p6 : Addr) (ea : Option Addr) (ec : Nat) (cs : List (Nat → UInt8)) (tp : Option Addr) (pm : Option PI) (w : World) (hF : Fl w) (hz : Zs w p4 p6) (hA : AT w ab n o p4 p6 ea ec cs tp pm) (hB : Bd n la cs pm) :
    Calls Tryf.prog 39 #[.pointer (some ⟨ab, 0, none⟩), .agg #[.int .u32 la, .int .u32 pa, .bool a4]] w fun e w' => ∃ wl fa cf aa ca, e = .returned (.pointer (some ⟨wl.heap.size, 0, none⟩)) ∧ w' = wl.alloc (.cells #[.int .u8 14, .slice fa (fxOf n o).length cf, .slice aa (avOf la pa a4 cs pm).length ca, .slice none 0 0] 132) ∧ Packed n la pa a4 o cs pm w wl fa cf aa ca := by
  obtain ⟨i0, hi, hz0, hz1, hz2⟩ := info_parts Tryf.info5
  obtain ⟨X, hX⟩ : ∃ X, X = w.alloc (.cells #[.int .u32 la, .int .u32 pa, .bool a4] 44) := ⟨_, rfl⟩
  have HXw : Hid (Below w.heap.size w X) := by rw [hX]; exact (Below.refl _ _).alloc (Nat.le_refl _) _
  have HF : Hid (∀ W, Below X.heap.size X W → Fl W) := fun W hb => (hF.later HXw.out).later hb
  have HZ : Hid (∀ W, Below X.heap.size X W → Zs W p4 p6) := fun W hb => (hz.later HXw.out).later hb
  have HAT : Hid (∀ W, Below X.heap.size X W → AT W ab n o p4 p6 ea ec cs tp pm) := fun W hb => (hA.later HXw.out).later hb
  have HBd := Hid.mk'' hB
  have HL : Hid ((octOf n o).length = n) := octOf_len n o (by have := hB.n; omega)
  have HB : Hid (bc [by8 n] = [Value.int .u8 ((octOf n o).length : Int)]) := by
    rw [Hid, HL.out]
    rcases hB.n with h | h
    · rw [h]; rfl
    · rw [h]; rfl
  have i1 : (octOf n o).length ≤ 16 := by rw [HL.out]; have := hB.n; omega
  have SB : Hid (∀ W, Below X.heap.size X W → W.cell? ⟨w.heap.size, 0, none⟩ = some (.int .u32 la) ∧ W.cell? ⟨w.heap.size, 1, none⟩ = some (.int .u32 pa) ∧ W.cell? ⟨w.heap.size, 2, none⟩ = some (.bool a4)) := fun W hb => by
    subst hX
    have h := blk_on hb (Blk.new w 44 #[.int .u32 la, .int .u32 pa, .bool a4])
    exact ⟨h.cell 0, h.cell 1, h.cell 2⟩
  have HXs : Hid (w.heap.size < X.heap.size) := by rw [hX]; simp [Hid]
  clear hF hz hA hB
  go_enter Tryf.func39, Tryf.ntmps39
  go_upto_region 1 with fail
  rw [← hX]
  clear hX
  have c0 := (HAT.out X (Below.refl _ _)).c0
  have c1 := (HAT.out X (Below.refl _ _)).c1
  have c2 := (HAT.out X (Below.refl _ _)).c2
  go_upto_region 4 with (first
    | (at_builtin; have _tok := HR4; go_must (refine wpList_append_any _ rfl (.tmp 20) (.tmp 21) 23 23 rfl X.heap.size 5 i0 (.int .u8 0) 1 1 Tryf.underlying23 hi hz0 hz1 hz2 rfl _ ([0, 25, 70] ++ [by8 n] ++ octOf n o).length (bc ([0, 25, 70] ++ [by8 n] ++ octOf n o)) (by rfl) (by exact (HR4.out.row.alloc _)) _ 1 (bc [0]) (by rfl) (Src.litH _ Tryf.underlying23 [0] _ 1 1 5 w4.heap.size (by simp) rfl rfl) (by unfold maxLen; simp; omega) (by simp; omega) (by exact (HR4.out.alloc _).size) ?_); intro v5 w5 hown hext _ _; have HR5 : Hid (Rw X w5 v5 (fxOf n o)) := HR4.out.ext hext.of_alloc (OB.app hown rfl); clear hown hext)
    | (at_builtin; have _tok := HR3; go_must (refine wpList_append_any _ rfl (.tmp 18) (.tmp 19) 23 23 rfl X.heap.size 5 i0 (.int .u8 0) 1 1 Tryf.underlying23 hi hz0 hz1 hz2 rfl _ ([0, 25, 70] ++ [by8 n]).length (bc ([0, 25, 70] ++ [by8 n])) (by rfl) (by exact HR3.out.row) _ (octOf n o).length (bc (octOf n o)) (by rfl) (Src.view _ Tryf.underlying23 a1 (octOf n o) _ HV3.out HN1.out) (by unfold maxLen; simp; omega) (by simp; omega) (by exact HR3.out.size) ?_); intro v4 w4 hown hext _ _; have HR4 : Hid (Rw X w4 v4 ([0, 25, 70] ++ [by8 n] ++ octOf n o)) := HR3.out.ext hext (OB.app hown rfl); clear hown hext)
    | (at_builtin; have _tok := HR2; go_must (refine wpList_append_any _ rfl (.tmp 12) (.tmp 16) 23 23 rfl X.heap.size 5 i0 (.int .u8 0) 1 1 Tryf.underlying23 hi hz0 hz1 hz2 rfl _ ([0, 25, 70] : List UInt8).length (bc [0, 25, 70]) (by rfl) (by exact (HR2.out.row.alloc _)) _ 1 (bc [by8 n]) (by rfl) (Src.litH _ Tryf.underlying23 [by8 n] _ 1 1 5 w2.heap.size (by simp) (by rw [HB.out]) rfl) (by unfold maxLen; simp) (by simp) (by exact (HR2.out.alloc _).size) ?_); intro v3 w3 hown hext _ _; have HR3 : Hid (Rw X w3 v3 ([0, 25, 70] ++ [by8 n])) := HR2.out.ext hext.of_alloc (OB.app hown rfl); have HV3 := Hid.mk'' (HV2.out.ext hext.of_alloc (fun b o' q e => by have h1 := HP1.out b o' q; have h2 := HG2.out b e; omega)); clear hown hext)
    | (go_at_call 43; refine (fam_any _).mono ?_; rintro e w2 ⟨v2, rfl, hO, hb⟩; have HR2 : Hid (Rw X w2 v2 [0, 25, 70]) := ⟨hO.base (fun k h => Nat.le_trans HB1.out.size (hO.lt k h).1), HB1.out.trans (hb.mono HB1.out.size)⟩; have HV2 := Hid.mk'' (HV1.out.all hb); have HG2 : Hid (∀ k, v2.ownBlock = some k → w1.heap.size ≤ k) := (fun k h => (hO.lt k h).1); clear hO hb)
    | (go_at_call 51; refine (as_c p4 p6 n o _ (HZ.out _ (Below.refl _ _))).mono ?_; rintro e w1 ⟨a1, rfl, hV1, hn1, hp1, hb1⟩; have HV1 := Hid.mk'' hV1; have HN1 := Hid.mk'' hn1; have HP1 : Hid (∀ k o', a1 = some ⟨k, o', none⟩ → k < w1.heap.size) := (fun k o' q => (hp1 k o' q).2); have HB1 := Hid.mk'' hb1; clear hV1 hn1 hp1 hb1)
    | fail)
  obtain ⟨b0, b1, b2⟩ := SB.out _ HR5.out.below
  obtain ⟨gf, cf, hv5, hgf, hlf, hcf, hmf⟩ : ∃ g cf, v5 = .slice (some ⟨g, 0, none⟩) (fxOf n o).length cf ∧ X.heap.size ≤ g ∧ g < w5.heap.size ∧ (fxOf n o).length ≤ cf ∧ cf ≤ maxLen := by
    rcases HR5.out.row.form with h | ⟨g, c, h, h1, h2, h3, h4⟩
    · exact absurd h.2 (by simp [fxOf])
    · exact ⟨g, c, h, h1, h2, h3, h4⟩
  subst hv5
  have HVf := Hid.mk'' (view_row HR5.out.row)
  have HCF : Hid ((fxOf n o).length ≤ cf ∧ cf ≤ maxLen) := ⟨hcf, hmf⟩
  clear hgf hlf hcf hmf
  go_wp2_with (first
    | (go_at_call 52; refine (path_any ab la pa a4 ea ec cs tp pm _ (HF.out _ HR5.out.below) HBd.out.la (HAT.out _ HR5.out.below).c3 (HAT.out _ HR5.out.below).c4 (HAT.out _ HR5.out.below).cv (HAT.out _ HR5.out.below).tv HBd.out.cs HBd.out.pm).mono ?_; rintro e w6 ⟨v6, rfl, hO, hb⟩; obtain ⟨aa, ca, hv6, hVa, -, -, -, hna, -⟩ := View.own hO; subst hv6; have HVa := Hid.mk'' hVa; have HNa : Hid (aa = none → avOf la pa a4 cs pm = []) := (fun h => List.eq_nil_of_length_eq_zero (hna h).1); have HB6 := Hid.mk'' (HR5.out.below.trans (hb.mono HR5.out.below.size)); have HVf6 := Hid.mk'' (HVf.out.all hb); have HLa : Hid (∀ k o', aa = some ⟨k, o', none⟩ → k < w6.heap.size) := (fun k o' q => (hO.lt k (by rw [q]; rfl)).2); clear hO hVa hna hb)
    | fail)
  go_ret
  refine ⟨w6, _, cf, aa, ca, rfl, rfl, HVf6.out, HCF.out.1, HCF.out.2, ⟨gf, rfl⟩, HVa.out, HNa.out, HLa.out, HXw.out.trans (HB6.out.mono HXw.out.size)⟩

end Go.Proofs.Qxb6003713aFmt
