import Derived.Test.Qxb6003713aFmtPaB
namespace Go.Proofs.Qxb6003713aFmt
open Go.RowKit
set_option linter.unusedVariables false
set_option linter.unusedSimpArgs false

theorem flush_none (pb : Nat) (c f a v : Value) (B : Nat) (w : World) (hP : PKb w pb 132 c f a v) (hO : OB 5 B w v []) :
    Calls Tryf.prog 42 #[.pointer (some ⟨pb, 0, none⟩)] w fun e w' => e = .returned (.slice none 0 0) ∧ w' = w := by
  have hc := hP.cell 3
  simp only [List.getElem?_toArray, List.getElem?_cons_succ, List.getElem?_cons_zero] at hc
  rcases hO.form with ⟨rfl, _⟩ | ⟨g, cap, rfl, _⟩
  · go_enter Tryf.func42, Tryf.ntmps42
    go_wp2
    go_ret
    exact ⟨rfl, rfl⟩
  · simp only [List.length_nil] at *
    go_enter Tryf.func42, Tryf.ntmps42
    go_wp2
    go_ret
    exact ⟨rfl, rfl⟩

theorem attr_at (fl fx : Int) (cn B : Nat) (b : Value) (l : List UInt8) (ao : Option Addr) (cap : Nat) (v : List UInt8) (n : Nat) (w : World) (hc : cn < 256) (hf0 : 0 ≤ fl) (hf : fl < 256) (hx : bits .or .u8 fl 16 = fx) (hx0 : 0 ≤ fx) (hx1 : fx < 256)
    (hO : OB 5 B w b l) (hB : B ≤ w.heap.size) (hlen : l.length ≤ 1000) (hv : v.length ≤ 65000) (hV : View w ao (bc v)) (hnil : ao = none → v = []) (hne : ∀ k o, ao = some ⟨k, o, none⟩ → b.ownBlock ≠ some k)
    (hg : w.cell? ⟨5, cn, none⟩ = some (.int .u8 fl)) (h5 : 5 < B) (hn : v.length = n) :
    Calls Tryf.prog 57 #[b, .int .u8 cn, .slice ao n cap] w fun e w' => ∃ b', e = .returned b' ∧ OB 5 B w' b' (l ++ attr fl cn v) ∧ Ext w w' b b' := by
  subst hn
  exact attr_any fl fx cn B b l ao cap v w hc hf0 hf hx hx0 hx1 hO hB hlen hv hV hnil hne hg h5

theorem message_at (t : Int) (ao : Option Addr) (cap : Nat) (l : List UInt8) (n : Nat) (w : World) (ht0 : 0 ≤ t) (ht : t < 256) (hlen : l.length ≤ 60000) (hV : View w ao (bc l)) (hnil : ao = none → l = []) (hn : l.length = n) :
    Calls Tryf.prog 26 #[.int .u8 t, .slice ao n cap] w fun e w' => ∃ v', e = .returned v' ∧ OB 5 w.heap.size w' v' (msg t l) ∧ Below w.heap.size w w' := by
  subst hn
  exact message_any t ao cap l w ht0 ht hlen hV hnil

theorem ext_cell {w w1 : World} {v1 : Value} {p : Addr} {u : Value} (h : Ext w.drew w1 (.slice none 0 0) v1) (hc : w.cell? p = some u) : w1.cell? p = some u :=
  (Kept.ofExt h).cell (a := w.drew) hc (fun h => by cases h)

set_option maxRecDepth 100000 in
set_option maxHeartbeats 2000000 in
theorem flush_some (fl fy : Int) (cn B pb : Nat) (fa : Option Addr) (cf : Nat) (fx : List UInt8) (aa : Option Addr) (ca : Nat) (av : List UInt8) (v : Value) (nl : List UInt8) (w : World)
    (hc : cn < 256) (hf0 : 0 ≤ fl) (hf : fl < 256) (hx : bits .or .u8 fl 16 = fy) (hx0 : 0 ≤ fy) (hx1 : fy < 256)
    (hP : PKb w pb 132 (.int .u8 cn) (.slice fa fx.length cf) (.slice aa av.length ca) v)
    (hfc : fx.length ≤ cf) (hcf : cf ≤ maxLen) (hfn : fa = none → fx.length = 0 ∧ cf = 0)
    (hVf : View w fa (bc fx)) (hVa : View w aa (bc av)) (hna : aa = none → av = []) (hpa : ∀ k o, aa = some ⟨k, o, none⟩ → k ≠ pb)
    (hO : OB 5 B w v nl) (hnl : nl ≠ []) (hvp : v.ownBlock ≠ some pb) (hg : w.cell? ⟨5, cn, none⟩ = some (.int .u8 fl)) (h5 : 5 < pb)
    (hlen : fx.length + nl.length + av.length ≤ 4069) :
    Calls Tryf.prog 42 #[.pointer (some ⟨pb, 0, none⟩)] w fun e w' => ∃ m v', e = .returned m ∧ OB 5 w.heap.size w' m (upd fl cn fx nl av) ∧ PKb w' pb 132 (.int .u8 cn) (.slice fa fx.length cf) (.slice aa av.length ca) v' ∧ OB 5 B w' v' [] ∧ v'.ownBlock = v.ownBlock ∧ Kept w w' (fun k => k = pb) := by
  obtain ⟨i0, hi, hz0, hz1, hz2⟩ := info_parts Tryf.info5
  have hnl1 : 0 < nl.length := List.length_pos_iff.2 hnl
  rcases hO.form with ⟨_, e⟩ | ⟨g, cap, rfl, hBg, hgw, hnc, hcm⟩
  · exact absurd e hnl
  have hgp : g ≠ pb := fun e => hvp (by rw [e]; rfl)
  have c0 : w.cell? ⟨pb, 0, none⟩ = some (.int .u8 cn) := hP.cell 0
  have c1 : w.cell? ⟨pb, 1, none⟩ = some (.slice fa fx.length cf) := hP.cell 1
  have c2 : w.cell? ⟨pb, 2, none⟩ = some (.slice aa av.length ca) := hP.cell 2
  have c3 : w.cell? ⟨pb, 3, none⟩ = some (.slice (some ⟨g, 0, none⟩) nl.length cap) := hP.cell 3
  have HO : Hid (OB 5 B w (.slice (some ⟨g, 0, none⟩) nl.length cap) nl) := hO
  have HVf : Hid (View w fa (bc fx)) := hVf
  have HVa : Hid (View w aa (bc av)) := hVa
  have HNa : Hid (aa = none → av = []) := hna
  have HPa : Hid (∀ k o, aa = some ⟨k, o, none⟩ → k ≠ pb) := hpa
  have HFn : Hid (fa = none → fx.length = 0 ∧ cf = 0) := hfn
  have HP : Hid (PKb w pb 132 (.int .u8 cn) (.slice fa fx.length cf) (.slice aa av.length ca) (.slice (some ⟨g, 0, none⟩) nl.length cap)) := hP
  have hpl := hP.lt
  have hnz : ¬ nl.length = 0 := by omega
  clear hO hVf hVa hna hpa hfn hP hnl hvp
  go_enter Tryf.func42, Tryf.ntmps42
  go_wp2
  go_region_held3 (fun w' => w'.cell? ⟨pb, 1, none⟩ = some (.slice fa fx.length cf) ∧ w'.cell? ⟨pb, 3, none⟩ = some (.slice (some ⟨g, 0, none⟩) nl.length cap)) ((first | exact ⟨ext_cell ‹Ext _ _ _ _› c1, ext_cell ‹Ext _ _ _ _› c3⟩ | go_keep)) ((first
    | (go_at_call 56; refine (clip_any fa fx.length cf _ hfc hcf HFn.out).mono ?_; rintro e w1 ⟨rfl, rfl⟩)
    | (refine step_append_full _ (by rfl) (.tmp 15) (.tmp 19) 23 23 (by rfl) 5 i0 (.int .u8 0) 1 Tryf.underlying23 hi hz0 hz1 hz2 rfl fa fx.length (bc fx) (by rfl) HVf.out (bc_length _) (fun h => (HFn.out h).1) _ nl.length (bc nl) (by rfl) (OB.src Tryf.underlying23 HO.out) hnl1 (by unfold maxLen; omega) (by omega) ?_; intro v1 w1 hown1 hext1)
    | fail))
  rename_i hHeld
  clear hHeld
  have hk1 : Hid (Kept w w1 (fun _ => False)) := ((Kept.refl w _).drew).trans ((Kept.ofExt hext1).mono (fun _ _ h => by cases h))
  have HP1 : Hid (PKb w1 _ _ _ _ _ _) := HP.out.kept hk1.out (fun h => h)
  have d0 : w1.cell? ⟨pb, 0, none⟩ = some (.int .u8 cn) := HP1.out.cell 0
  have d2 : w1.cell? ⟨pb, 2, none⟩ = some (.slice aa av.length ca) := HP1.out.cell 2
  have d3 : w1.cell? ⟨pb, 3, none⟩ = some (.slice (some ⟨g, 0, none⟩) nl.length cap) := HP1.out.cell 3
  have f1 := HP1.out.frozen
  have hpl1 := HP1.out.lt
  have hsz1 := hk1.out.size
  obtain ⟨a1, cc1, rfl, hV1, -, -, -, hn1, ha1⟩ := View.own hown1
  have HV1 : Hid (View w1 a1 (bc (fx ++ nl))) := by rw [Hid, bc_append]; exact hV1
  have HN1 : Hid (a1 = none → fx ++ nl = []) := fun h => by have := (hn1 h).1; omega
  have HA1 : Hid (∀ k o, a1 = some ⟨k, o, none⟩ → w.heap.size ≤ k ∧ k < w1.heap.size) := fun k o h => (ha1 _ h).2.2
  clear hV1 hn1 ha1 hown1 hext1 c0 c1 c2 c3
  have HK2 : Hid (∀ o, Kept w1 ((w1.setCell ⟨pb, 3, none⟩ (.slice (some ⟨g, 0, none⟩) 0 cap)).alloc o) (fun k => k = pb)) := fun o => ((Kept.refl w1 (fun k => k = pb)).set (.inl rfl) _).alloc o
  go_wp2_with (first
    | (go_at_call 57; go_must (refine (attr_at fl fy cn w.heap.size _ [0, 0, 0, 0] a1 cc1 (fx ++ nl) (fx.length + nl.length) _ hc hf0 hf hx hx0 hx1 (OB.lit _ 5 w.heap.size w1.heap.size _ [0, 0, 0, 0] 4 (by simp) (by simp; omega) rfl rfl (by unfold maxLen; omega)) (by simp; omega) (by simp) (by simp; omega) (HV1.out.kept (HK2.out _) (fun b o h q => by have := (HA1.out b o h).1; omega)) HN1.out (fun k o h q => by have := (HA1.out k o h).2; simp [Value.ownBlock] at q; omega) ((HK2.out _).cell (hk1.out.cell hg (fun h => h)) (by show ¬ 5 = pb; omega)) (by omega) (by simp)).mono ?_); rintro e w3 ⟨v3, rfl, hO3, hE3⟩)
    | fail)
  have HK3 : Hid (Kept w w3 (fun k => k = pb)) := ((hk1.out.mono (fun _ _ h => h.elim)).next (HK2.out _) (fun _ _ h => h)).next (Kept.ofExt hE3) (fun i hi q => by simp [Value.ownBlock] at q; omega)
  have HP3 : Hid (PKb w3 pb 132 (.int .u8 cn) (.slice fa fx.length cf) (.slice aa av.length ca) (.slice (some ⟨g, 0, none⟩) 0 cap)) :=
    (((HP1.out.set _).kept (Kept.ofAll ((Below.refl _ _).alloc (Nat.le_refl _) _) (fun _ => False)) (fun h => h)).kept (Kept.ofExt hE3) (fun q => by simp [Value.ownBlock] at q; omega))
  have HO3 : Hid (OB 5 B w3 (.slice (some ⟨g, 0, none⟩) 0 cap) []) := (HO.out.keptX HK3.out (fun k q h => by simp [Value.ownBlock] at q; omega)).cut0
  have e2 : w3.cell? ⟨pb, 2, none⟩ = some (.slice aa av.length ca) := HP3.out.cell 2
  have HV3 : Hid (View w3 aa (bc av)) := HVa.out.kept HK3.out HPa.out
  have hsz3 := HK3.out.size
  clear hE3 HK2 HV1 HN1 HA1 HP1 HP hk1 HO d0 d2 d3 f1 hpl1 hsz1
  have hal := attr_length fl cn (fx ++ nl)
  obtain ⟨g3, c3, rfl, hg3, hgw3, hc3, hcm3⟩ : ∃ g cap, v3 = .slice (some ⟨g, 0, none⟩) ([0, 0, 0, 0] ++ attr fl cn (fx ++ nl)).length cap ∧ w.heap.size ≤ g ∧ g < w3.heap.size ∧ ([0, 0, 0, 0] ++ attr fl cn (fx ++ nl)).length ≤ cap ∧ cap ≤ maxLen := by
    rcases hO3.form with ⟨_, h⟩ | h
    · simp at h
    · exact h
  obtain ⟨A, hA⟩ : ∃ A, A = attr fl cn (fx ++ nl) := ⟨_, rfl⟩
  obtain ⟨n3, hn3⟩ : ∃ n3, n3 = ([0, 0, 0, 0] ++ attr fl cn (fx ++ nl)).length := ⟨_, rfl⟩
  have hn3A : n3 = 4 + A.length := by rw [hn3, hA]; simp; omega
  have hAl : A.length ≤ 4 + (fx.length + nl.length) := by rw [hA, hal, List.length_append]; split <;> omega
  rw [← hn3] at hc3 hO3 ⊢
  have HOb : Hid (OB 5 w.heap.size w3 (.slice (some ⟨g3, 0, none⟩) n3 c3) ([0, 0, 0, 0] ++ attr fl cn (fx ++ nl))) := hO3
  unfold maxLen at hcm3
  have i2 : (2 : Int) ≤ (n3 : Int) := by omega
  have i3 : (n3 : Int) ≤ (c3 : Int) := by omega
  have i4 : ¬ c3 = 2 := by omega
  have hxx : (0 : Int) ≤ (n3 : Int) - 4 + (av.length : Int) := by omega
  have hxy : (n3 : Int) - 4 + (av.length : Int) < 65536 := by omega
  have HN3 : Hid (n3 = ([0, 0, 0, 0] ++ attr fl cn (fx ++ nl)).length) := hn3
  have HN3A : Hid (n3 = 4 + A.length) := hn3A
  have HA : Hid (A = attr fl cn (fx ++ nl)) := hA
  have h4n : 4 ≤ n3 := by omega
  have hnle : n3 + av.length ≤ 4077 := by omega
  clear hO3 hal hn3 hn3A hA
  have hw1 : IntKind.i64.wrap ((n3 : Int) - 4) = (n3 : Int) - 4 := by rw [IntKind.wrap_i64]; omega
  have hw2 : IntKind.i64.wrap ((n3 : Int) - 4 + (av.length : Int)) = (n3 : Int) - 4 + (av.length : Int) := by rw [IntKind.wrap_i64]; omega
  have hw3 : IntKind.u16.wrap ((n3 : Int) - 4 + (av.length : Int)) = (n3 : Int) - 4 + (av.length : Int) := by simp [IntKind.wrap, IntKind.bits, IntKind.signed]; omega
  go_region_held3 (fun w' => w'.cell? ⟨pb, 2, none⟩ = some (.slice aa av.length ca)) ((first | (exact (Kept.cell ‹Kept _ _ _› (a := w3.drew) e2 (by show ¬ pb = g3; omega))) | go_keep)) ((first
    | (go_at_call 58; refine (put16_any ((n3 : Int) - 4 + (av.length : Int)) g3 n3 c3 _ _ w.heap.size _ _ hxx hxy HOb.out.drew HN3.out.symm (by omega) (by omega)).mono ?_; rintro e w4 ⟨rfl, hO4, hK4⟩)
    | fail))
  rename_i hHeld
  clear hHeld hw1 hw2 hw3 hxx hxy i2 i3 i4
  have HK4 : Hid (Kept w w4 (fun k => k = pb)) := HK3.out.drew.next hK4 (fun i hi q => by omega)
  have HP4 : Hid (PKb w4 pb 132 (.int .u8 cn) (.slice fa fx.length cf) (.slice aa av.length ca) (.slice (some ⟨g, 0, none⟩) 0 cap)) := PKb.kept (w := w3.drew) HP3.out hK4 (fun q => by omega)
  have HO4' : Hid (OB 5 B w4 (.slice (some ⟨g, 0, none⟩) 0 cap) []) := OB.keptX (w := w3.drew) HO3.out.drew hK4 (fun k q h => by simp [Value.ownBlock] at q; omega)
  have e4 : w4.cell? ⟨pb, 2, none⟩ = some (.slice aa av.length ca) := HP4.out.cell 2
  have HV4 : Hid (View w4 aa (bc av)) := HVa.out.kept HK4.out HPa.out
  have hsz4 := HK4.out.size
  obtain ⟨L4, hL4⟩ : ∃ L4, L4 = (([0, 0, 0, 0] ++ attr fl cn (fx ++ nl)).set 2 (by8 (((n3 : Int) - 4 + (av.length : Int)) / 256))).set 3 (by8 (((n3 : Int) - 4 + (av.length : Int)) % 256)) := ⟨_, rfl⟩
  rw [← hL4] at hO4
  have HB4 : Hid (L4 ++ av = body fl cn fx nl av) := by
    have ha := HN3A.out
    rw [HA.out] at ha
    have hz : ((n3 : Int) - 4 + (av.length : Int)) = ((attr fl cn (fx ++ nl)).length + av.length) := by omega
    rw [hL4, hz]
    rfl
  have hl4 : L4.length = n3 := by
    rw [hL4, List.length_set, List.length_set]
    exact HN3.out.symm
  have HL4 : Hid (L4.length = n3) := hl4
  have hb4 : L4.length + av.length ≤ 4077 := by omega
  clear hL4 hl4 hK4 HK3 HP3 HO3 HV3 e2 HOb HN3 HN3A HA hAl hsz3
  go_wp2_with (first
    | (go_at_call 26; go_must (refine (message_at 2 a5 c5 (L4 ++ av) (L4.length + av.length) _ (by omega) (by omega) (by rw [List.length_append]; omega) HV5.out HN5.out (by rw [List.length_append])).mono ?_); rintro e w6 ⟨v6, rfl, hO6, hb6⟩)
    | (at_builtin; go_must (refine wpList_append_any _ rfl (.tmp 50) (.tmp 54) 23 23 rfl w.heap.size 5 i0 (.int .u8 0) 1 1 Tryf.underlying23 hi hz0 hz1 hz2 rfl _ _ _ rfl hO4 _ av.length (bc av) rfl (Src.view _ Tryf.underlying23 aa av ca HV4.out HNa.out) (by unfold maxLen; omega) (by omega) hsz4 ?_); intro v5 w5 hown5 hext5 _ _; obtain ⟨a5, c5, hv5, hV5, -, -, -, hn5, -⟩ := View.own hown5; subst hv5; have HV5 : Hid (View w5 a5 (bc (L4 ++ av))) := (by rw [Hid, bc_append]; exact hV5); have HN5 : Hid (a5 = none → L4 ++ av = []) := (fun h => by have := (hn5 h).1; exact List.eq_nil_of_length_eq_zero (by rw [List.length_append]; omega)); have HE5 : Hid (Ext w4 w5 (.slice (some ⟨g3, 0, none⟩) n3 c3) _) := hext5; clear hV5 hn5 hown5 hext5)
    | fail)
  go_ret
  have HK5 : Kept w4 w5 (fun k => k = g3) := (Kept.ofExt HE5.out).mono (fun i _ q => by simp [Value.ownBlock] at q; exact q.symm)
  have hb6' := Kept.ofAll hb6 (fun _ => False)
  refine ⟨_, .slice (some ⟨g, 0, none⟩) 0 cap, rfl, ?_, (HP4.out.kept HK5 (fun q => by omega)).kept hb6' (fun h => h), (HO4'.out.keptX HK5 (fun k q h => by simp [Value.ownBlock] at q; omega)).keptX hb6' (fun _ _ h => h), rfl, (HK4.out.next HK5 (fun i hi q => by omega)).next hb6' (fun _ _ h => h.elim)⟩
  have := hO6.base (B' := w.heap.size) (fun k h => Nat.le_trans (Nat.le_trans hsz4 HK5.size) (hO6.lt k h).1)
  rw [HB4.out] at this
  exact this

end Go.Proofs.Qxb6003713aFmt
