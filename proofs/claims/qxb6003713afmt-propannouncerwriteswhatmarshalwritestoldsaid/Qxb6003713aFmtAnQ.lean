import Derived.Test.Qxb6003713aFmtAnP
namespace Go.Proofs.Qxb6003713aFmt
open Go.RowKit
set_option linter.unusedVariables false
set_option linter.unusedSimpArgs false

theorem valid_c (p4 p6 : Addr) (n : Nat) (o : Nat → UInt8) (w : World) (hz : Zs w p4 p6) (h : n = 4 ∨ n = 16) : Calls Tryf.prog 37 #[.agg #[.int .u64 (aHi n o : Nat), .int .u64 (aLo n o : Nat), .pointer (aZ p4 p6 n)]] w fun e w' => e = .returned (.bool true) ∧ Below w.heap.size w w' := by
  have e : ∃ p, aZ p4 p6 n = some p := by
    unfold aZ
    rcases h with h | h
    · exact ⟨p4, by rw [if_pos h]⟩
    · exact ⟨p6, by rw [if_neg (by omega), if_pos h]⟩
  obtain ⟨p, e⟩ := e
  rw [e]
  exact valid_some _ _ p p4 p6 w hz

set_option maxRecDepth 100000 in
set_option maxHeartbeats 4000000 in
theorem newann_any (ab n la pa : Nat) (a4 : Bool) (o : Nat → UInt8) (p4 p6 : Addr) (ea : Option Addr) (ec : Nat) (cs : List (Nat → UInt8)) (tp : Option Addr) (pm : Option PI) (w : World) (hF : Fl w) (hz : Zs w p4 p6) (hA : AT w ab n o p4 p6 ea ec cs tp pm) (hB : Bd n la cs pm) :
    Calls Tryf.prog 17 #[.pointer (some ⟨ab, 0, none⟩), .agg #[.int .u32 la, .int .u32 pa, .bool a4]] w fun e w' => ∃ wl fa cf aa ca, e = .returned (.tuple #[.pointer (some ⟨wl.heap.size + 1, 0, none⟩), .nilIface]) ∧ w' = (wl.alloc (.cells #[.int .u8 14, .slice fa (fxOf n o).length cf, .slice aa (avOf la pa a4 cs pm).length ca, .slice none 0 0] 132)).alloc (.cells #[.pointer (some ⟨wl.heap.size, 0, none⟩), .slice none 0 0] 127) ∧ Packed n la pa a4 o cs pm w wl fa cf aa ca := by
  obtain ⟨X, hX⟩ : ∃ X, X = w.alloc (.cells #[.int .u32 la, .int .u32 pa, .bool a4] 44) := ⟨_, rfl⟩
  have HXw : Hid (Below w.heap.size w X) := by rw [hX]; exact (Below.refl _ _).alloc (Nat.le_refl _) _
  have HF : Hid (∀ W, Below X.heap.size X W → Fl W) := fun W hb => (hF.later HXw.out).later hb
  have HZ : Hid (∀ W, Below X.heap.size X W → Zs W p4 p6) := fun W hb => (hz.later HXw.out).later hb
  have HAT : Hid (∀ W, Below X.heap.size X W → AT W ab n o p4 p6 ea ec cs tp pm) := fun W hb => (hA.later HXw.out).later hb
  have HBd := Hid.mk'' hB
  have SB : Hid (∀ W, Below X.heap.size X W → W.cell? ⟨w.heap.size, 0, none⟩ = some (.int .u32 la) ∧ W.cell? ⟨w.heap.size, 1, none⟩ = some (.int .u32 pa) ∧ W.cell? ⟨w.heap.size, 2, none⟩ = some (.bool a4)) := fun W hb => by
    subst hX
    have h := blk_on hb (Blk.new w 44 #[.int .u32 la, .int .u32 pa, .bool a4])
    exact ⟨h.cell 0, h.cell 1, h.cell 2⟩
  clear hF hz hA hB
  go_enter Tryf.func17, Tryf.ntmps17
  go_upto_region 1 with fail
  rw [← hX]
  clear hX
  have c0 := (HAT.out X (Below.refl _ _)).c0
  have c1 := (HAT.out X (Below.refl _ _)).c1
  have c2 := (HAT.out X (Below.refl _ _)).c2
  go_wp2_with (first
    | (go_at_call 39; refine (reach_any ab n la pa a4 o p4 p6 ea ec cs tp pm _ (HF.out _ HB1.out) (HZ.out _ HB1.out) (HAT.out _ HB1.out) HBd.out).mono ?_; rintro e w2 ⟨wl, fa, cf, aa, ca, rfl, rfl, hpk⟩; have HPk := Hid.mk'' hpk; clear hpk)
    | (go_at_call 37; refine (valid_c p4 p6 n o _ (HZ.out _ (Below.refl _ _)) HBd.out.n).mono ?_; rintro e w1 ⟨rfl, hb1⟩; have HB1 := Hid.mk'' hb1; clear hb1; obtain ⟨b0, b1, b2⟩ := SB.out _ HB1.out)
    | fail)
  refine bodyPost_ret (v := .tuple #[.pointer (some ⟨wl.heap.size + 1, 0, none⟩), .nilIface]) (by simp [results, Tryf.results17, go_sem]) rfl ?_
  obtain ⟨h1, h2, h3, h4, h5, h6, h7, h8⟩ := HPk.out
  exact ⟨wl, fa, cf, aa, ca, rfl, rfl, h1, h2, h3, h4, h5, h6, h7, (HXw.out.trans (HB1.out.mono HXw.out.size)).trans (h8.mono (HXw.out.trans (HB1.out.mono HXw.out.size)).size)⟩

/-- Rows of their own that lie apart. -/
def Dis (a b : Value) : Prop := ∀ g, a.ownBlock = some g → b.ownBlock ≠ some g
theorem Dis.symm {a b : Value} (h : Dis a b) : Dis b a := fun g e q => h g q e
theorem Dis.step {W : World} {a a' b : Value} (h : Dis a b) (hl : Lies W a a') (hb : ∀ g, b.ownBlock = some g → g < W.heap.size) : Dis a' b := fun g e q => by
  rcases hl with k | ⟨g', k, hg⟩
  · exact h g (k ▸ e) q
  · rw [k] at e; cases e; have := hb _ q; omega

/-- 'add', at a piece that the world shows. -/
theorem add_cur {wl : World} {fl fy : Int} {cn : Nat} {fa : Option Addr} {cf : Nat} {fx : List UInt8} {aa : Option Addr} {ca : Nat} {av : List UInt8} {la : Option Addr} {L : List (List UInt8)} (hc : cn < 256) (hf0 : 0 ≤ fl) (hf : fl < 256) (hx : bits .or .u8 fl 16 = fy) (hx0 : 0 ≤ fy) (hx1 : fy < 256)
    (hfc : fx.length ≤ cf) (hcf : cf ≤ maxLen) (hfn : fa = none → fx.length = 0 ∧ cf = 0) (hVf : View wl fa (bc fx)) (hVa : View wl aa (bc av)) (hna : aa = none → av = []) (hpa : ∀ k o, aa = some ⟨k, o, none⟩ → k < wl.heap.size) (hg : wl.cell? ⟨5, cn, none⟩ = some (.int .u8 fl)) (h5 : 5 < wl.heap.size)
    (hne : ∀ i, i < L.length → el L i ≠ []) (hfit' : ∀ i, i < L.length → (fx.length + av.length) + (el L i).length ≤ 4069)
    (pb B i : Nat) (v : Value) (ba : Option Addr) (n cb : Nat) (w : World) (hb : Below wl.heap.size wl w) (hpb : wl.heap.size ≤ pb) (hB : B ≤ w.heap.size) (hi : i < L.length)
    (hP : PKb w pb 132 (.int .u8 cn) (.slice fa fx.length cf) (.slice aa av.length ca) v) (hO : OB 5 B w v (cur (fx.length + av.length) L i)) (hvp : v.ownBlock ≠ some pb)
    (hV : View w ba (bc (el L i))) (hn : (el L i).length = n) (hbp : ∀ k o, ba = some ⟨k, o, none⟩ → k ≠ pb) :
    Calls Tryf.prog 41 #[.pointer (some ⟨pb, 0, none⟩), .slice ba n cb] w (Added fl cn pb B fx av L i (.int .u8 cn) (.slice fa fx.length cf) (.slice aa av.length ca) v w) := by
  subst hn
  have hfit := hfit' i hi
  have hcur := cur_fits (F := fx.length + av.length) (L := L) (.inl (by omega)) hfit' i (by omega) (by omega)
  have hnb : ba = none → el L i = [] := fun h => by
    subst h
    rcases hV with h | ⟨b, o, h, _⟩
    · simpa [bc] using h
    · cases h
  by_cases hf' : 4069 < (fx.length + av.length) + (cur (fx.length + av.length) L i).length + (el L i).length
  · obtain ⟨_, h2, h3⟩ := cur_flush hi hf'
    refine (add_flush fl fy cn B pb fa cf fx aa ca av v (cur (fx.length + av.length) L i) ba cb (el L i) w hc hf0 hf hx hx0 hx1 hP hfc hcf hfn (hVf.all hb) (hVa.all hb) hna
      (fun k o h => by have := hpa k o h; omega) hO hB hvp (cell_later hb hg) (Nat.lt_of_lt_of_le h5 hpb) hV hnb hbp (by omega) (by omega) (by omega)).mono ?_
    rintro e w' ⟨m, v', rfl, hm, hmv, hP', hO', hl, hk⟩
    refine ⟨m, v', rfl, hP', by rw [h3]; exact hO', hl, hk, .inr ⟨?_, hm, hmv, h2⟩⟩
    rcases hm.form with ⟨_, h⟩ | ⟨g, c, h, _⟩
    · exact absurd h (upd_ne _ _ _ _ _)
    · exact ⟨g, _, c, h⟩
  · obtain ⟨_, h2, h3⟩ := cur_stay hi hf'
    refine (add_stay cn B pb fa cf fx aa ca av v (cur (fx.length + av.length) L i) ba cb (el L i) w hP hO hB hvp hV hnb (by omega)).mono ?_
    rintro e w' ⟨v', rfl, hP', hO', hl, hk⟩
    exact ⟨_, v', rfl, hP', by rw [h3]; exact hO', hl, hk, .inl ⟨rfl, h2⟩⟩

end Go.Proofs.Qxb6003713aFmt
