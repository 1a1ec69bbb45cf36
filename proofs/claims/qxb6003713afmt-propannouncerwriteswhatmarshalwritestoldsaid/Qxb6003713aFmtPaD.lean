import Derived.Test.Qxb6003713aFmtPaC
import Derived.Deep.QuietTactic
import Derived.BigQuiet
namespace Go.Proofs.Qxb6003713aFmt
open Go.RowKit
set_option linter.unusedVariables false
set_option linter.unusedSimpArgs false

/-- Where a row may have come to lie. -/
def Lies (w : World) (v v' : Value) : Prop := v'.ownBlock = v.ownBlock ∨ ∃ g, v'.ownBlock = some g ∧ w.heap.size ≤ g

/-- How 'add' ends where the NLRI fits. -/
def Stayed (pb B : Nat) (c f a v : Value) (nl : List UInt8) (w : World) (e : Ending) (w' : World) : Prop :=
  ∃ v', e = .returned (.tuple #[.slice none 0 0, .nilIface]) ∧ PKb w' pb 132 c f a v' ∧ OB 5 B w' v' nl ∧ Lies w v v' ∧ Kept w w' (fun k => k = pb ∨ v.ownBlock = some k)

set_option maxRecDepth 100000 in
set_option maxHeartbeats 2000000 in
theorem add_stay (cn B pb : Nat) (fa : Option Addr) (cf : Nat) (fx : List UInt8) (aa : Option Addr) (ca : Nat) (av : List UInt8) (v : Value) (nl : List UInt8) (ba : Option Addr) (cb : Nat) (lb : List UInt8) (w : World)
    (hP : PKb w pb 132 (.int .u8 cn) (.slice fa fx.length cf) (.slice aa av.length ca) v)
    (hO : OB 5 B w v nl) (hB : B ≤ w.heap.size) (hvp : v.ownBlock ≠ some pb) (hV : View w ba (bc lb)) (hnb : ba = none → lb = [])
    (hlen : fx.length + nl.length + lb.length + av.length ≤ 4069) :
    Calls Tryf.prog 41 #[.pointer (some ⟨pb, 0, none⟩), .slice ba lb.length cb] w (Stayed pb B (.int .u8 cn) (.slice fa fx.length cf) (.slice aa av.length ca) v (nl ++ lb) w) := by
  obtain ⟨i0, hi, hz0, hz1, hz2⟩ := info_parts Tryf.info5
  obtain ⟨va, vc, hv, -, -, -, -, -, -⟩ := View.own hO
  subst hv
  have c1 : w.cell? ⟨pb, 1, none⟩ = some (.slice fa fx.length cf) := hP.cell 1
  have c2 : w.cell? ⟨pb, 2, none⟩ = some (.slice aa av.length ca) := hP.cell 2
  have c3 : w.cell? ⟨pb, 3, none⟩ = some (.slice va nl.length vc) := hP.cell 3
  have HP : Hid (PKb w pb 132 (.int .u8 cn) (.slice fa fx.length cf) (.slice aa av.length ca) (.slice va nl.length vc)) := hP
  have HO : Hid (OB 5 B w (.slice va nl.length vc) nl) := hO
  have HV : Hid (View w ba (bc lb)) := hV
  have HNb : Hid (ba = none → lb = []) := hnb
  have HVP : Hid ((Value.slice va nl.length vc).ownBlock ≠ some pb) := hvp
  have hpl := hP.lt
  have j1 : IntKind.i64.wrap (4069 - (fx.length : Int)) = 4069 - (fx.length : Int) := by rw [IntKind.wrap_i64]; omega
  have j2 : IntKind.i64.wrap (4069 - (fx.length : Int) - (av.length : Int)) = 4069 - (fx.length : Int) - (av.length : Int) := by rw [IntKind.wrap_i64]; omega
  have j3 : ¬ 4069 - (fx.length : Int) - (av.length : Int) < (lb.length : Int) := by omega
  have j4 : ¬ 4069 - (fx.length : Int) - (av.length : Int) < (nl.length : Int) + (lb.length : Int) := by omega
  have j5 : IntKind.i64.wrap ((nl.length : Int) + (lb.length : Int)) = (nl.length : Int) + (lb.length : Int) := by rw [IntKind.wrap_i64]; omega
  clear hP hO hV hnb hvp
  go_enter Tryf.func41, Tryf.ntmps41
  go_wp2_with fail
  go_quiet (fail)
  go_wp2_with (first
    | (at_builtin; go_must (refine wpList_append_any _ rfl (.tmp 47) (.tmp 48) 23 23 rfl B 5 i0 (.int .u8 0) 1 1 Tryf.underlying23 hi hz0 hz1 hz2 rfl _ nl.length (bc nl) rfl HO.out _ lb.length (bc lb) rfl (Src.view _ Tryf.underlying23 ba lb cb HV.out HNb.out) (by unfold maxLen; omega) (by omega) hB ?_); intro v1 w1 hown1 hext1 hx1 hx2; clear hx1 hx2; have hk1 : Hid (Kept w w1 (fun k => (Value.slice va nl.length vc).ownBlock = some k)) := Kept.trans ((Kept.refl w _).drewN _) (Kept.ofExt hext1); obtain ⟨a1, cc1, hv1, -, -, -, -, -, -⟩ := View.own hown1; subst hv1; have HO1 : Hid (OB 5 B w1 (.slice a1 (nl.length + lb.length) cc1) (nl ++ lb)) := OB.app hown1 rfl; have HL1 : Hid (Lies w (.slice va nl.length vc) (.slice a1 (nl.length + lb.length) cc1)) := hext1.lies; have HP1 : Hid (PKb w1 pb 132 (.int .u8 cn) (.slice fa fx.length cf) (.slice aa av.length ca) (.slice va nl.length vc)) := HP.out.kept hk1.out HVP.out; have d3 : w1.cell? ⟨pb, 3, none⟩ = some (.slice va nl.length vc) := HP1.out.cell 3; have f1 := HP1.out.frozen; clear hown1 hext1)
    | fail)
  refine bodyPost_ret (v := .tuple #[.slice none 0 0, .nilIface]) (by simp [results, Tryf.results41, go_sem]) rfl ?_
  refine ⟨.slice a1 (nl.length + lb.length) cc1, rfl, HP1.out.set _, HO1.out.keptX ((Kept.refl w1 (fun k => k = pb)).set (.inl rfl) _) (fun k q h => ?_), HL1.out, (hk1.out.mono (fun i _ q => .inr q)).set (.inl (.inl rfl)) _⟩
  subst h
  rcases HL1.out with e | ⟨g, e, hg⟩
  · exact HVP.out (e.symm.trans q)
  · rw [e] at q
    cases q
    omega

/-- How 'add' ends where the NLRI wants the next message. -/
def Flushed (pb B : Nat) (c f a v : Value) (M lb : List UInt8) (w : World) (e : Ending) (w' : World) : Prop :=
  ∃ m v', e = .returned (.tuple #[m, .nilIface]) ∧ OB 5 w.heap.size w' m M ∧ (∀ k, m.ownBlock = some k → v'.ownBlock ≠ some k) ∧ PKb w' pb 132 c f a v' ∧ OB 5 B w' v' lb ∧ Lies w v v' ∧ Kept w w' (fun k => k = pb ∨ v.ownBlock = some k)

set_option maxRecDepth 100000 in
set_option maxHeartbeats 2000000 in
theorem add_flush (fl fy : Int) (cn B pb : Nat) (fa : Option Addr) (cf : Nat) (fx : List UInt8) (aa : Option Addr) (ca : Nat) (av : List UInt8) (v : Value) (nl : List UInt8) (ba : Option Addr) (cb : Nat) (lb : List UInt8) (w : World)
    (hc : cn < 256) (hf0 : 0 ≤ fl) (hf : fl < 256) (hx : bits .or .u8 fl 16 = fy) (hx0 : 0 ≤ fy) (hx1 : fy < 256)
    (hP : PKb w pb 132 (.int .u8 cn) (.slice fa fx.length cf) (.slice aa av.length ca) v)
    (hfc : fx.length ≤ cf) (hcf : cf ≤ maxLen) (hfn : fa = none → fx.length = 0 ∧ cf = 0)
    (hVf : View w fa (bc fx)) (hVa : View w aa (bc av)) (hna : aa = none → av = []) (hpa : ∀ k o, aa = some ⟨k, o, none⟩ → k ≠ pb)
    (hO : OB 5 B w v nl) (hB : B ≤ w.heap.size) (hvp : v.ownBlock ≠ some pb) (hg : w.cell? ⟨5, cn, none⟩ = some (.int .u8 fl)) (h5 : 5 < pb)
    (hV : View w ba (bc lb)) (hnb : ba = none → lb = []) (hpb : ∀ k o, ba = some ⟨k, o, none⟩ → k ≠ pb)
    (hlen : fx.length + nl.length + av.length ≤ 4069) (hfit : fx.length + lb.length + av.length ≤ 4069) (hfull : 4069 < fx.length + nl.length + lb.length + av.length) :
    Calls Tryf.prog 41 #[.pointer (some ⟨pb, 0, none⟩), .slice ba lb.length cb] w (Flushed pb B (.int .u8 cn) (.slice fa fx.length cf) (.slice aa av.length ca) v (upd fl cn fx nl av) lb w) := by
  obtain ⟨i0, hi, hz0, hz1, hz2⟩ := info_parts Tryf.info5
  have hvl := fun k h => (hO.lt k h).2
  have hnl : nl ≠ [] := fun h => by subst h; simp at hfull; omega
  have hfl := flush_some fl fy cn B pb fa cf fx aa ca av v nl
  obtain ⟨va, vc, hv, -, -, -, -, -, -⟩ := View.own hO
  have c1 : w.cell? ⟨pb, 1, none⟩ = some (.slice fa fx.length cf) := hP.cell 1
  have c2 : w.cell? ⟨pb, 2, none⟩ = some (.slice aa av.length ca) := hP.cell 2
  have c3 : w.cell? ⟨pb, 3, none⟩ = some (.slice va nl.length vc) := by rw [← hv]; exact hP.cell 3
  have HP : Hid (PKb w pb 132 (.int .u8 cn) (.slice fa fx.length cf) (.slice aa av.length ca) v) := hP
  have HF : Hid (∀ n, Calls Tryf.prog 42 #[.pointer (some ⟨pb, 0, none⟩)] (w.drewN n) fun e w' => ∃ m v', e = .returned m ∧ OB 5 w.heap.size w' m (upd fl cn fx nl av) ∧ PKb w' pb 132 (.int .u8 cn) (.slice fa fx.length cf) (.slice aa av.length ca) v' ∧ OB 5 B w' v' [] ∧ v'.ownBlock = v.ownBlock ∧ Kept (w.drewN n) w' (fun k => k = pb)) :=
    fun n => hfl (w.drewN n) hc hf0 hf hx hx0 hx1 hP hfc hcf hfn hVf hVa hna hpa hO hnl hvp hg h5 hlen
  have HV : Hid (View w ba (bc lb)) := hV
  have HNb : Hid (ba = none → lb = []) := hnb
  have HPb : Hid (∀ k o, ba = some ⟨k, o, none⟩ → k ≠ pb) := hpb
  have HVP : Hid (v.ownBlock ≠ some pb) := hvp
  have HVL : Hid (∀ k, v.ownBlock = some k → k < w.heap.size) := hvl
  have hpl := hP.lt
  have j1 : IntKind.i64.wrap (4069 - (fx.length : Int)) = 4069 - (fx.length : Int) := by rw [IntKind.wrap_i64]; omega
  have j2 : IntKind.i64.wrap (4069 - (fx.length : Int) - (av.length : Int)) = 4069 - (fx.length : Int) - (av.length : Int) := by rw [IntKind.wrap_i64]; omega
  have j3 : ¬ 4069 - (fx.length : Int) - (av.length : Int) < (lb.length : Int) := by omega
  have j4 : 4069 - (fx.length : Int) - (av.length : Int) < (nl.length : Int) + (lb.length : Int) := by omega
  have j5 : IntKind.i64.wrap ((nl.length : Int) + (lb.length : Int)) = (nl.length : Int) + (lb.length : Int) := by rw [IntKind.wrap_i64]; omega
  clear hP hO hV hnb hvp hfl hVf hVa hna hpa hg hfn hpb hvl hnl hv hx
  go_enter Tryf.func41, Tryf.ntmps41
  go_wp2_with fail
  go_quiet (fail)
  go_wp2_with (first
    | (go_at_call 42; go_must (refine (HF.out _).mono ?_); rintro e w2 ⟨m2, v2, rfl, hO2, hP2, hO2', hv2, hk2'⟩; have HK2 : Hid (Kept w w2 (fun k => k = pb)) := Kept.trans ((Kept.refl w _).drewN _) hk2'; have HP2 : Hid (PKb w2 pb 132 (.int .u8 cn) (.slice fa fx.length cf) (.slice aa av.length ca) v2) := hP2; obtain ⟨ya, yc, hy, -, -, -, -, -, -⟩ := View.own hO2'; have HY : Hid (v2 = .slice ya 0 yc) := hy; have HVV : Hid (v2.ownBlock = v.ownBlock) := hv2; have HO2 : Hid (OB 5 w.heap.size w2 m2 (upd fl cn fx nl av)) := hO2; have HO2' : Hid (OB 5 B w2 (.slice ya 0 yc) []) := (by rw [Hid, ← HY.out]; exact hO2'); have d3 : w2.cell? ⟨pb, 3, none⟩ = some (.slice ya 0 yc) := (by rw [← HY.out]; exact hP2.cell 3); clear hk2' hP2 hO2' hv2 hO2 hy)
    | (at_builtin; go_must (refine wpList_append_any _ rfl (.tmp 47) (.tmp 48) 23 23 rfl B 5 i0 (.int .u8 0) 1 1 Tryf.underlying23 hi hz0 hz1 hz2 rfl _ 0 [] rfl HO2'.out _ lb.length (bc lb) rfl (Src.view _ Tryf.underlying23 ba lb cb (HV.out.kept HK2.out HPb.out) HNb.out) (by unfold maxLen; omega) (by omega) (Nat.le_trans hB HK2.out.size) ?_); intro v1 w1 hown1 hext1 hx1 hx2; clear hx1 hx2; have hk1 : Hid (Kept w2 w1 (fun k => v.ownBlock = some k)) := (Kept.ofExt hext1).mono (fun k _ q => by rw [← HVV.out, HY.out]; exact q); obtain ⟨a1, cc1, hv1, -, -, -, -, -, -⟩ := View.own hown1; subst hv1; have HO1 : Hid (OB 5 B w1 (.slice a1 (0 + lb.length) cc1) lb) := (by have := OB.app (l := []) (m := lb) (k := lb.length) hown1 rfl; exact this); have HL1 : Hid (Lies w2 v (.slice a1 (0 + lb.length) cc1)) := (by have := hext1.lies; rw [Hid, Lies, ← HVV.out, HY.out]; exact this); have HP1 : Hid (PKb w1 pb 132 (.int .u8 cn) (.slice fa fx.length cf) (.slice aa av.length ca) v2) := HP2.out.kept hk1.out HVP.out; have e3 : w1.cell? ⟨pb, 3, none⟩ = some (.slice ya 0 yc) := (by rw [← HY.out]; exact HP1.out.cell 3); have f1 := HP1.out.frozen; clear hown1 hext1)
    | fail)
  refine bodyPost_ret (v := .tuple #[m2, .nilIface]) (by simp [results, Tryf.results41, go_sem]) rfl ?_
  have hO1 := HO1.out
  have hL1 := HL1.out
  rw [Nat.zero_add] at hO1 hL1
  have hs1 := hk1.out.size
  have hs2 := HK2.out.size
  have hm2 := fun k h => HO2.out.lt k h
  have hset := (Kept.refl w1 (fun k => k = pb)).set (k := 3) (.inl rfl) (.slice a1 lb.length cc1)
  refine ⟨m2, .slice a1 lb.length cc1, rfl, (HO2.out.keptX hk1.out (fun k q h => ?_)).keptX hset (fun k q h => ?_), fun k q h => ?_, HP1.out.set _, hO1.keptX hset (fun k q h => ?_), ?_, ((HK2.out.mono (fun _ _ h => .inl h)).next hk1.out (fun _ _ h => .inr h)).set (.inl (.inl rfl)) _⟩
  · have := hm2 k q
    have := HVL.out k h
    omega
  · have := hm2 k q
    have : k = pb := h
    omega
  · have h2 := hm2 k q
    rcases hL1 with e | ⟨g, e, hg⟩
    · have := HVL.out k (e.symm.trans h)
      omega
    · have := e.symm.trans h
      cases this
      omega
  · have : k = pb := h
    subst this
    rcases hL1 with e | ⟨g, e, hg⟩
    · exact HVP.out (e.symm.trans q)
    · have := e.symm.trans q
      cases this
      omega
  · rcases hL1 with e | ⟨g, e, hg⟩
    · exact .inl e
    · exact .inr ⟨g, e, Nat.le_trans hs2 hg⟩

end Go.Proofs.Qxb6003713aFmt
