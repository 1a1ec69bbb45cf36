import Derived.Test.Qxb6003713aFmtAnQ
namespace Go.Proofs.Qxb6003713aFmt
open Go.RowKit
set_option linter.unusedVariables false
set_option linter.unusedSimpArgs false

/-- A packer's surroundings, at code 14. -/
structure PE (wl : World) (fa : Option Addr) (cf : Nat) (fx : List UInt8) (aa : Option Addr) (ca : Nat) (av : List UInt8) (L : List (List UInt8)) : Prop where
  hF : Fl wl
  hfc : fx.length ≤ cf
  hcf : cf ≤ maxLen
  hfn : fa = none → fx.length = 0 ∧ cf = 0
  hVf : View wl fa (bc fx)
  hVa : View wl aa (bc av)
  hna : aa = none → av = []
  hpa : ∀ k o, aa = some ⟨k, o, none⟩ → k < wl.heap.size
  ne : ∀ i, i < L.length → el L i ≠ []
  fit : ∀ i, i < L.length → (fx.length + av.length) + (el L i).length ≤ 4069

/-- How Add ends. -/
def AnAdded (wl : World) (fa : Option Addr) (cf : Nat) (fx : List UInt8) (aa : Option Addr) (ca : Nat) (av : List UInt8) (L : List (List UInt8)) (k : Nat) (W : World) (v nv : Value) (e : Ending) (W' : World) : Prop :=
  ∃ m v' nv', e = .returned (.tuple #[m, .nilIface]) ∧ PKb W' wl.heap.size 132 (.int .u8 14) (.slice fa fx.length cf) (.slice aa av.length ca) v' ∧ Blk W' (wl.heap.size + 1) 127 #[.pointer (some ⟨wl.heap.size, 0, none⟩), nv'] ∧
    OB 5 (wl.heap.size + 2) W' v' (cur (fx.length + av.length) L (k + 1)) ∧ OB 5 (wl.heap.size + 2) W' nv' (el L k) ∧ Dis v' nv' ∧ Lies W v v' ∧ Lies W nv nv' ∧ Kept W W' (fun i => i = wl.heap.size ∨ i = wl.heap.size + 1 ∨ v.ownBlock = some i ∨ nv.ownBlock = some i) ∧
    ((m = .slice none 0 0 ∧ gr (fx.length + av.length) L (k + 1) = gr (fx.length + av.length) L k) ∨
     (∃ g n c, m = .slice (some ⟨g, 0, none⟩) n c ∧ OB 5 W.heap.size W' m (upd (flagOf 14) (14 : Nat) fx (cur (fx.length + av.length) L k) av) ∧ v'.ownBlock ≠ some g ∧ nv'.ownBlock ≠ some g ∧ gr (fx.length + av.length) L (k + 1) = gr (fx.length + av.length) L k ++ [cur (fx.length + av.length) L k]))

theorem PE.add {wl : World} {fa : Option Addr} {cf : Nat} {fx : List UInt8} {aa : Option Addr} {ca : Nat} {av : List UInt8} {L : List (List UInt8)} (E : PE wl fa cf fx aa ca av L) (pb B i : Nat) (v : Value) (ba : Option Addr) (n cb : Nat) (w : World) (hb : Below wl.heap.size wl w) (hpb : wl.heap.size ≤ pb) (hB : B ≤ w.heap.size) (hi : i < L.length)
    (hP : PKb w pb 132 (.int .u8 14) (.slice fa fx.length cf) (.slice aa av.length ca) v) (hO : OB 5 B w v (cur (fx.length + av.length) L i)) (hvp : v.ownBlock ≠ some pb)
    (hV : View w ba (bc (el L i))) (hn : (el L i).length = n) (hbp : ∀ k o, ba = some ⟨k, o, none⟩ → k ≠ pb) :
    Calls Tryf.prog 41 #[.pointer (some ⟨pb, 0, none⟩), .slice ba n cb] w (Added (flagOf 14) (14 : Nat) pb B fx av L i (.int .u8 14) (.slice fa fx.length cf) (.slice aa av.length ca) v w) := by
  obtain ⟨fy, h1, h2, h3, h4, h5⟩ := flags_ok 14
  exact add_cur (cn := 14) (la := none) (by decide) h4 h5 h1 h2 h3 E.hfc E.hcf E.hfn E.hVf E.hVa E.hna E.hpa (E.hF.2 14 (by decide)) E.hF.1 E.ne E.fit pb B i v ba n cb w hb hpb hB hi hP hO hvp hV hn hbp

set_option maxRecDepth 100000 in
set_option maxHeartbeats 4000000 in
theorem annadd_any {wl : World} {fa : Option Addr} {cf : Nat} {fx : List UInt8} {aa : Option Addr} {ca : Nat} {av : List UInt8} {L : List (List UInt8)} (E : PE wl fa cf fx aa ca av L) (p4 p6 : Addr) (hz : Zs wl p4 p6) (r : RI) (hok : r.ok) (k : Nat) (hk : k < L.length) (hel : r.oct = el L k) (rb : Nat) (W : World) (v nv : Value) (l : List UInt8)
    (hb : Below wl.heap.size wl W) (hB : wl.heap.size + 2 ≤ W.heap.size)
    (hP : PKb W wl.heap.size 132 (.int .u8 14) (.slice fa fx.length cf) (.slice aa av.length ca) v) (hA : Blk W (wl.heap.size + 1) 127 #[.pointer (some ⟨wl.heap.size, 0, none⟩), nv])
    (hv : OB 5 (wl.heap.size + 2) W v (cur (fx.length + av.length) L k)) (hn : OB 5 (wl.heap.size + 2) W nv l) (hd : Dis v nv) (hC : RC W rb 0 (r.outs p4 p6)) (hrb : wl.heap.size + 2 ≤ rb) (hrv : v.ownBlock ≠ some rb) (hrn : nv.ownBlock ≠ some rb) :
    Calls Tryf.prog 19 #[.pointer (some ⟨wl.heap.size + 1, 0, none⟩), .pointer (some ⟨rb, 0, none⟩)] W (AnAdded wl fa cf fx aa ca av L k W v nv) := by
  have HZ := Hid.mk'' hz
  have HOK := Hid.mk'' hok
  have HEl : Hid (r.oct = el L k) := hel
  have HBl := Hid.mk'' hb
  have HBs := Hid.mk'' hB
  have HP := Hid.mk'' hP
  have HA := Hid.mk'' hA
  have HV := Hid.mk'' hv
  have HN0 := Hid.mk'' hn
  have HD := Hid.mk'' hd
  have HC := Hid.mk'' hC
  have HRn := Hid.mk'' hrn
  have HNa : Hid (¬ nv.ownBlock = some (wl.heap.size + 1)) := fun e => by have := (hn.lt _ e).1; omega
  have HNp : Hid (¬ nv.ownBlock = some wl.heap.size) := fun e => by have := (hn.lt _ e).1; omega
  have HVp : Hid (v.ownBlock ≠ some wl.heap.size) := fun e => by have := (hv.lt _ e).1; omega
  have HAdd : Hid (∀ (X : World), Below wl.heap.size wl X → PKb X wl.heap.size 132 (.int .u8 14) (.slice fa fx.length cf) (.slice aa av.length ca) v → OB 5 (wl.heap.size + 2) X v (cur (fx.length + av.length) L k) → v.ownBlock ≠ some wl.heap.size → ∀ {g n q : Nat}, OB 5 (wl.heap.size + 2) X (.slice (some ⟨g, 0, none⟩) n q) r.oct →
      Calls Tryf.prog 41 #[.pointer (some ⟨wl.heap.size, 0, none⟩), .slice (some ⟨g, 0, none⟩) n q] X (Added (flagOf 14) (14 : Nat) wl.heap.size (wl.heap.size + 2) fx av L k (.int .u8 14) (.slice fa fx.length cf) (.slice aa av.length ca) v X)) := fun X hb h1 h2 h3 g n q h4 => by
    have hvw := view_row h4
    have hlt := h4.lt g rfl
    refine E.add wl.heap.size (wl.heap.size + 2) k v (some ⟨g, 0, none⟩) n q X hb (Nat.le_refl _) (by omega) hk h1 h2 h3 (hel ▸ hvw) ?_ (fun k' o h => by cases h; omega)
    rcases h4.form with h | ⟨g', c, h, _⟩
    · cases h.1
    · rw [← hel]; cases h; rfl
  have c0 : W.cell? ⟨wl.heap.size + 1, 0, none⟩ = some (.pointer (some ⟨wl.heap.size, 0, none⟩)) := hA.cell 0
  have c1 : W.cell? ⟨wl.heap.size + 1, 1, none⟩ = some nv := hA.cell 1
  clear hz hok hel hb hB hP hA hv hd hC hrb hrv hrn E
  rcases hn.form with ⟨h1, h2⟩ | ⟨gn, qn, h1, h2, h3, h4, h5⟩
  · subst h1
    have HCut : Hid (OB 5 (wl.heap.size + 2) W (.slice none 0 0) []) := OB.nil _ _ _
    have HOwn : Hid ((Value.slice none 0 0).ownBlock = (Value.slice none 0 0).ownBlock) := rfl
    clear hn
    have HRc : Hid (Rw wl W (Value.slice none 0 0) []) := ⟨HCut.out.base (fun k h => Nat.le_trans (Nat.le_add_right _ 2) (HCut.out.lt k h).1), HBl.out⟩
    have HNc : Hid ((Value.slice none 0 0).ownBlock ≠ some rb) := fun e => HRn.out (HOwn.out ▸ e)
    go_enter Tryf.func19, Tryf.ntmps19
    go_wp2_with (first
      | (go_at_call 41; have _tok := HX1; refine (HAdd.out _ HBl2.out HP2.out HV2.out HVp.out HVn2.out).mono ?_; intro e W3 hAd; have HAd := Hid.mk'' hAd; clear hAd; obtain ⟨m, v', he, hP3, hO3, hl3, hk3, hm3⟩ := HAd.out; subst he)
      | (go_at_call 40; refine (nlri_any wl p4 p6 r rb 0 _ _ HZ.out HOK.out HRc.out HC.out HNc.out).mono ?_; rintro e W1 ⟨nv1, rfl, hO, hE⟩; have HX1 := Hid.mk'' hE; have HO1 := Hid.mk'' hO; clear hO hE; obtain ⟨g1, n1, q1, hnv, hn1⟩ : ∃ g n q, nv1 = .slice (some ⟨g, 0, none⟩) n q ∧ r.oct.length = n := (by rcases HO1.out.form with h | ⟨g, c, h, _⟩; (exact absurd h.2 (by simp [RI.oct])); exact ⟨g, _, c, h, rfl⟩); subst hnv; have HN1 := Hid.mk'' hn1; clear hn1; have HL1 : Hid (Lies W (Value.slice none 0 0) (.slice (some ⟨g1, 0, none⟩) n1 q1)) := HX1.out.lies; have HLn : Hid (Lies W (Value.slice none 0 0) (.slice (some ⟨g1, 0, none⟩) n1 q1)) := (by rcases HL1.out with h | h; (exact .inl (h.trans HOwn.out)); exact .inr h); have HK1 : Hid (Kept W W1 (fun i => (Value.slice none 0 0).ownBlock = some i)) := (by have h := Kept.ofExt HX1.out; rw [HOwn.out] at h; exact h); have hA1 := HA.out.kept HK1.out HNa.out; have a0 : W1.cell? ⟨wl.heap.size + 1, 0, none⟩ = some (.pointer (some ⟨wl.heap.size, 0, none⟩)) := hA1.cell 0; have a1 : W1.cell? ⟨wl.heap.size + 1, 1, none⟩ = some (Value.slice none 0 0) := hA1.cell 1; have f1 := hA1.frozen; have HA2 := Hid.mk'' (hA1.set 1 (.slice (some ⟨g1, 0, none⟩) n1 q1)); clear hA1; have HK2 : Hid (Kept W (W1.setCell ⟨wl.heap.size + 1, 1, none⟩ (.slice (some ⟨g1, 0, none⟩) n1 q1)) (fun i => i = wl.heap.size + 1 ∨ (Value.slice none 0 0).ownBlock = some i)) := ((HK1.out.mono (fun i _ h => .inr h)).set (.inl (.inl rfl)) _); have HP2 := Hid.mk'' (HP.out.kept HK2.out (fun h => by rcases h with h | h; omega; exact HNp.out h)); have HV2 := Hid.mk'' (HV.out.keptX HK2.out (fun g hg h => by rcases h with h | h; (have := (HV.out.lt g hg).1; omega); exact HD.out g hg h)); have HBl2 : Hid (Below wl.heap.size wl (W1.setCell ⟨wl.heap.size + 1, 1, none⟩ (.slice (some ⟨g1, 0, none⟩) n1 q1))) := HBl.out.trans ((HK2.out.below (B := wl.heap.size) HBl.out.size (fun i h => by rcases h with h | h; omega; (have := (HN0.out.lt i h).1; omega)))); have HOn2 : Hid (OB 5 (wl.heap.size + 2) (W1.setCell ⟨wl.heap.size + 1, 1, none⟩ (.slice (some ⟨g1, 0, none⟩) n1 q1)) (.slice (some ⟨g1, 0, none⟩) n1 q1) r.oct) := ((HO1.out.base (fun g hg => by rcases HLn.out with q | ⟨g', q, hg'⟩; (rw [q] at hg; exact (HN0.out.lt g hg).1); (rw [q] at hg; cases hg; exact Nat.le_trans HBs.out hg'))).keptX ((Kept.refl W1 (fun i => i = wl.heap.size + 1)).set (.inl rfl) _) (fun g hg h => by have h0 : g = wl.heap.size + 1 := h; rcases HLn.out with q | ⟨g', q, hg'⟩; (rw [q] at hg; have := (HN0.out.lt g hg).1; omega); (rw [q] at hg; cases hg; have := HBs.out; omega))); have HVn2 := Hid.mk'' (HOn2.out))
      | fail)
    have HFin : Hid (AnAdded wl fa cf fx aa ca av L k W v (Value.slice none 0 0) (.returned (.tuple #[m, .nilIface])) W3) := by
      have hdv : Dis v (.slice (some ⟨g1, 0, none⟩) n1 q1) := (Dis.step HD.out.symm HLn.out (fun g hg => (HV.out.lt g hg).2)).symm
      have hs2 : W.heap.size ≤ (W1.setCell ⟨wl.heap.size + 1, 1, none⟩ (.slice (some ⟨g1, 0, none⟩) n1 q1)).heap.size := HK2.out.size
      have hn2l := fun g hg => (HOn2.out.lt g hg).2
      have hk3' : Kept W W3 (fun i => i = wl.heap.size ∨ i = wl.heap.size + 1 ∨ v.ownBlock = some i ∨ (Value.slice none 0 0).ownBlock = some i) :=
        (HK2.out.mono (fun i _ h => by rcases h with h | h; exact .inr (.inl h); exact .inr (.inr (.inr h)))).next hk3 (fun i _ h => by rcases h with h | h; exact .inl h; exact .inr (.inr (.inl h)))
      have hlv : Lies W v v' := by
        rcases hl3 with h | ⟨g, h, hg⟩
        · exact .inl h
        · exact .inr ⟨g, h, Nat.le_trans hs2 hg⟩
      refine ⟨m, v', _, rfl, hP3, HA2.out.kept hk3 (fun h => by rcases h with h | h; omega; (have := (HV.out.lt _ h).1; omega)), hO3, HEl.out ▸ HOn2.out.keptX hk3 (fun g hg h => by rcases h with h | h; (have := (HOn2.out.lt g hg).1; omega); exact hdv g h hg), Dis.step hdv hl3 hn2l, hlv, HLn.out, hk3', ?_⟩
      rcases hm3 with ⟨h1, h2⟩ | ⟨⟨g, n, c, h1⟩, h2, h3, h4⟩
      · exact .inl ⟨h1, h2⟩
      · subst h1
        refine .inr ⟨g, n, c, rfl, h2.base (fun i hi => Nat.le_trans hs2 (h2.lt i hi).1), h3 g rfl, fun h => ?_, h4⟩
        have := hn2l g h
        have := (h2.lt g rfl).1
        omega
    refine bodyPost_ret (v := .tuple #[m, .nilIface]) (by simp [results, Tryf.results19, go_sem]) rfl ?_
    exact HFin.out
  · subst h1
    have HCut : Hid (OB 5 (wl.heap.size + 2) W (.slice (some ⟨gn, 0, none⟩) 0 qn) []) := HN0.out.cut0
    have HOwn : Hid ((Value.slice (some ⟨gn, 0, none⟩) 0 qn).ownBlock = (Value.slice (some ⟨gn, 0, none⟩) l.length qn).ownBlock) := rfl
    have i1 : (l.length : Int) ≤ (qn : Int) := by omega
    have i2 : (0 : Int) ≤ (qn : Int) := by omega
    clear hn
    have HRc : Hid (Rw wl W (Value.slice (some ⟨gn, 0, none⟩) 0 qn) []) := ⟨HCut.out.base (fun k h => Nat.le_trans (Nat.le_add_right _ 2) (HCut.out.lt k h).1), HBl.out⟩
    have HNc : Hid ((Value.slice (some ⟨gn, 0, none⟩) 0 qn).ownBlock ≠ some rb) := fun e => HRn.out (HOwn.out ▸ e)
    go_enter Tryf.func19, Tryf.ntmps19
    go_wp2_with (first
      | (go_at_call 41; have _tok := HX1; refine (HAdd.out _ HBl2.out HP2.out HV2.out HVp.out HVn2.out).mono ?_; intro e W3 hAd; have HAd := Hid.mk'' hAd; clear hAd; obtain ⟨m, v', he, hP3, hO3, hl3, hk3, hm3⟩ := HAd.out; subst he)
      | (go_at_call 40; refine (nlri_any wl p4 p6 r rb 0 _ _ HZ.out HOK.out HRc.out HC.out HNc.out).mono ?_; rintro e W1 ⟨nv1, rfl, hO, hE⟩; have HX1 := Hid.mk'' hE; have HO1 := Hid.mk'' hO; clear hO hE; obtain ⟨g1, n1, q1, hnv, hn1⟩ : ∃ g n q, nv1 = .slice (some ⟨g, 0, none⟩) n q ∧ r.oct.length = n := (by rcases HO1.out.form with h | ⟨g, c, h, _⟩; (exact absurd h.2 (by simp [RI.oct])); exact ⟨g, _, c, h, rfl⟩); subst hnv; have HN1 := Hid.mk'' hn1; clear hn1; have HL1 : Hid (Lies W (Value.slice (some ⟨gn, 0, none⟩) 0 qn) (.slice (some ⟨g1, 0, none⟩) n1 q1)) := HX1.out.lies; have HLn : Hid (Lies W (Value.slice (some ⟨gn, 0, none⟩) l.length qn) (.slice (some ⟨g1, 0, none⟩) n1 q1)) := (by rcases HL1.out with h | h; (exact .inl (h.trans HOwn.out)); exact .inr h); have HK1 : Hid (Kept W W1 (fun i => (Value.slice (some ⟨gn, 0, none⟩) l.length qn).ownBlock = some i)) := (by have h := Kept.ofExt HX1.out; rw [HOwn.out] at h; exact h); have hA1 := HA.out.kept HK1.out HNa.out; have a0 : W1.cell? ⟨wl.heap.size + 1, 0, none⟩ = some (.pointer (some ⟨wl.heap.size, 0, none⟩)) := hA1.cell 0; have a1 : W1.cell? ⟨wl.heap.size + 1, 1, none⟩ = some (Value.slice (some ⟨gn, 0, none⟩) l.length qn) := hA1.cell 1; have f1 := hA1.frozen; have HA2 := Hid.mk'' (hA1.set 1 (.slice (some ⟨g1, 0, none⟩) n1 q1)); clear hA1; have HK2 : Hid (Kept W (W1.setCell ⟨wl.heap.size + 1, 1, none⟩ (.slice (some ⟨g1, 0, none⟩) n1 q1)) (fun i => i = wl.heap.size + 1 ∨ (Value.slice (some ⟨gn, 0, none⟩) l.length qn).ownBlock = some i)) := ((HK1.out.mono (fun i _ h => .inr h)).set (.inl (.inl rfl)) _); have HP2 := Hid.mk'' (HP.out.kept HK2.out (fun h => by rcases h with h | h; omega; exact HNp.out h)); have HV2 := Hid.mk'' (HV.out.keptX HK2.out (fun g hg h => by rcases h with h | h; (have := (HV.out.lt g hg).1; omega); exact HD.out g hg h)); have HBl2 : Hid (Below wl.heap.size wl (W1.setCell ⟨wl.heap.size + 1, 1, none⟩ (.slice (some ⟨g1, 0, none⟩) n1 q1))) := HBl.out.trans ((HK2.out.below (B := wl.heap.size) HBl.out.size (fun i h => by rcases h with h | h; omega; (have := (HN0.out.lt i h).1; omega)))); have HOn2 : Hid (OB 5 (wl.heap.size + 2) (W1.setCell ⟨wl.heap.size + 1, 1, none⟩ (.slice (some ⟨g1, 0, none⟩) n1 q1)) (.slice (some ⟨g1, 0, none⟩) n1 q1) r.oct) := ((HO1.out.base (fun g hg => by rcases HLn.out with q | ⟨g', q, hg'⟩; (rw [q] at hg; exact (HN0.out.lt g hg).1); (rw [q] at hg; cases hg; exact Nat.le_trans HBs.out hg'))).keptX ((Kept.refl W1 (fun i => i = wl.heap.size + 1)).set (.inl rfl) _) (fun g hg h => by have h0 : g = wl.heap.size + 1 := h; rcases HLn.out with q | ⟨g', q, hg'⟩; (rw [q] at hg; have := (HN0.out.lt g hg).1; omega); (rw [q] at hg; cases hg; have := HBs.out; omega))); have HVn2 := Hid.mk'' (HOn2.out))
      | fail)
    have HFin : Hid (AnAdded wl fa cf fx aa ca av L k W v (Value.slice (some ⟨gn, 0, none⟩) l.length qn) (.returned (.tuple #[m, .nilIface])) W3) := by
      have hdv : Dis v (.slice (some ⟨g1, 0, none⟩) n1 q1) := (Dis.step HD.out.symm HLn.out (fun g hg => (HV.out.lt g hg).2)).symm
      have hs2 : W.heap.size ≤ (W1.setCell ⟨wl.heap.size + 1, 1, none⟩ (.slice (some ⟨g1, 0, none⟩) n1 q1)).heap.size := HK2.out.size
      have hn2l := fun g hg => (HOn2.out.lt g hg).2
      have hk3' : Kept W W3 (fun i => i = wl.heap.size ∨ i = wl.heap.size + 1 ∨ v.ownBlock = some i ∨ (Value.slice (some ⟨gn, 0, none⟩) l.length qn).ownBlock = some i) :=
        (HK2.out.mono (fun i _ h => by rcases h with h | h; exact .inr (.inl h); exact .inr (.inr (.inr h)))).next hk3 (fun i _ h => by rcases h with h | h; exact .inl h; exact .inr (.inr (.inl h)))
      have hlv : Lies W v v' := by
        rcases hl3 with h | ⟨g, h, hg⟩
        · exact .inl h
        · exact .inr ⟨g, h, Nat.le_trans hs2 hg⟩
      refine ⟨m, v', _, rfl, hP3, HA2.out.kept hk3 (fun h => by rcases h with h | h; omega; (have := (HV.out.lt _ h).1; omega)), hO3, HEl.out ▸ HOn2.out.keptX hk3 (fun g hg h => by rcases h with h | h; (have := (HOn2.out.lt g hg).1; omega); exact hdv g h hg), Dis.step hdv hl3 hn2l, hlv, HLn.out, hk3', ?_⟩
      rcases hm3 with ⟨h1, h2⟩ | ⟨⟨g, n, c, h1⟩, h2, h3, h4⟩
      · exact .inl ⟨h1, h2⟩
      · subst h1
        refine .inr ⟨g, n, c, rfl, h2.base (fun i hi => Nat.le_trans hs2 (h2.lt i hi).1), h3 g rfl, fun h => ?_, h4⟩
        have := hn2l g h
        have := (h2.lt g rfl).1
        omega
    refine bodyPost_ret (v := .tuple #[m, .nilIface]) (by simp [results, Tryf.results19, go_sem]) rfl ?_
    exact HFin.out

end Go.Proofs.Qxb6003713aFmt
