import Derived.Test.Qxb6003713aFmtPaF
namespace Go.Proofs.Qxb6003713aFmt
open Go.RowKit
set_option linter.unusedVariables false
set_option linter.unusedSimpArgs false

theorem Added.stay {fl : Int} {cn pb B : Nat} {fx av : List UInt8} {L : List (List UInt8)} {i : Nat} {c f a v : Value} {w : World} {e : Ending} {w' : World} (h : Added fl cn pb B fx av L i c f a v w e w') (hi : i < L.length) (hf : ¬ 4069 < (fx.length + av.length) + (cur (fx.length + av.length) L i).length + (el L i).length) :
    ∃ v', e = .returned (.tuple #[.slice none 0 0, .nilIface]) ∧ PKb w' pb 132 c f a v' ∧ OB 5 B w' v' (cur (fx.length + av.length) L (i + 1)) ∧ Lies w v v' ∧ Kept w w' (fun k => k = pb ∨ v.ownBlock = some k) := by
  obtain ⟨m, v', rfl, h1, h2, h3, h4, ⟨rfl, _⟩ | ⟨_, _, _, hg⟩⟩ := h
  · exact ⟨v', rfl, h1, h2, h3, h4⟩
  · rw [(cur_stay hi hf).2.1] at hg
    simp at hg
theorem Added.flush {fl : Int} {cn pb B : Nat} {fx av : List UInt8} {L : List (List UInt8)} {i : Nat} {c f a v : Value} {w : World} {e : Ending} {w' : World} (h : Added fl cn pb B fx av L i c f a v w e w') (hi : i < L.length) (hf : 4069 < (fx.length + av.length) + (cur (fx.length + av.length) L i).length + (el L i).length) :
    ∃ g n k v', e = .returned (.tuple #[.slice (some ⟨g, 0, none⟩) n k, .nilIface]) ∧ PKb w' pb 132 c f a v' ∧ OB 5 B w' v' (cur (fx.length + av.length) L (i + 1)) ∧ Lies w v v' ∧ Kept w w' (fun k => k = pb ∨ v.ownBlock = some k) ∧
      OB 5 w.heap.size w' (.slice (some ⟨g, 0, none⟩) n k) (upd fl cn fx (cur (fx.length + av.length) L i) av) ∧ (v'.ownBlock ≠ some g) := by
  obtain ⟨m, v', rfl, h1, h2, h3, h4, ⟨_, hg⟩ | ⟨⟨g, n, k, rfl⟩, hm, hmv, _⟩⟩ := h
  · rw [(cur_flush hi hf).2.1] at hg
    simp at hg
  · exact ⟨g, n, k, v', rfl, h1, h2, h3, h4, hm, hmv g rfl⟩

theorem upd_form {B : Nat} {w : World} {m : Value} {fl cn : Int} {fx nl av : List UInt8} (h : OB 5 B w m (upd fl cn fx nl av)) : ∃ g n q, m = .slice (some ⟨g, 0, none⟩) n q := by
  rcases h.form with ⟨_, e⟩ | ⟨g, c, e, _⟩
  · exact absurd e (upd_ne _ _ _ _ _)
  · exact ⟨g, _, c, e⟩

/-- A literal of one slice. -/
theorem Src.one {P : Program} {tx e' : TypeId} (w : World) (hk : P.underlying tx = some (.slice e')) (ao : Option Addr) (n c : Nat) (t : TypeId) :
    Src P 1 tx (.slice (some ⟨w.heap.size, 0, none⟩) 1 1) 1 [.slice ao n c] (w.alloc (.cells #[.slice ao n c] t)) :=
  Src.ofSlice (w.alloc (.cells #[.slice ao n c] t)) hk ⟨w.heap.size, 0, none⟩ 1 1 [.slice ao n c] rfl (fun j u hu => by
    rw [Addr.add_lit, World.cell?_alloc_mark]
    simpa using hu) (fun u hu => by simp at hu; subst hu; rfl)

section
variable {w0 : World} {pb : Nat} {fl : Int} {cn : Nat} {fx av : List UInt8} {L : List (List UInt8)} {c f a : Value} {wr : World} {mv v : Value} {k : Nat}

/-- One round that filled a message: the row to grow, and the state behind it. -/
theorem St.pushed (h : St w0 pb fl cn fx av L c f a wr mv v k) (hpb : pb < w0.heap.size) (hi : k < L.length) (hf : 4069 < (fx.length + av.length) + (cur (fx.length + av.length) L k).length + (el L k).length)
    {w1 : World} {v1 : Value} {g n q : Nat} (hP : PKb w1 pb 132 c f a v1) (hO : OB 5 w0.heap.size w1 v1 (cur (fx.length + av.length) L (k + 1))) (hl : Lies wr v v1) (hk : Kept wr w1 (fun i => i = pb ∨ v.ownBlock = some i))
    (hm : OB 5 wr.heap.size w1 (.slice (some ⟨g, 0, none⟩) n q) (upd fl cn fx (cur (fx.length + av.length) L k) av)) (hgv : v1.ownBlock ≠ some g) :
    ∃ xs, w1.ownsRow w0.heap.size 23 1 mv (gr (fx.length + av.length) L k).length xs ∧ w0.heap.size ≤ w1.heap.size ∧ ∀ o mv2 w2, w2.ownsRow w0.heap.size 23 1 mv2 ((gr (fx.length + av.length) L k).length + 1) (xs ++ [.slice (some ⟨g, 0, none⟩) n q]) → Ext (w1.alloc o) w2 mv mv2 →
      St w0 pb fl cn fx av L c f a w2 mv2 v1 (k + 1) := by
  obtain ⟨hk0, xs, m1, m2, m3⟩ := h.added hpb hP hO hl hk
  have hlt := World.ownsRow.lt m1
  obtain ⟨ys, y1, _⟩ := h.hM
  have hmvr := World.ownsRow.lt y1
  have hs := h.kept.size
  refine ⟨xs, by simpa using m1, hk0.size, fun o mv2 w2 hown hext => ?_⟩
  have hkx := Kept.ofExt hext.of_alloc
  have hpush := Mm.push (M := upd fl cn fx (cur (fx.length + av.length) L k) av) m1 m2 m3 (hm.base (fun i hi => Nat.le_trans hs (hm.lt i hi).1)) (fun i hi => by cases hi; exact hgv)
    (fun i hi q => by have h1 := (hm.lt i hi).1; have h2 := (hmvr i q).2; omega) hO (by simpa using hown) hext
  refine ⟨hk0.next hkx (fun i hi q => ?_), hP.kept hkx (fun q => ?_), hO.keptX hkx (fun i hi q => m3 i q hi), ?_⟩
  · have := (hlt i q).1
    omega
  · have := (hlt _ q).1
    omega
  · rw [(cur_flush hi hf).2.1, List.map_append]
    exact hpush

/-- The last message. -/
theorem St.ended (h : St w0 pb fl cn fx av L c f a wr mv v L.length) (hpb : pb < w0.heap.size) (hne : cur (fx.length + av.length) L L.length ≠ [])
    {w1 : World} {v1 : Value} {g n q : Nat} (hO : OB 5 w0.heap.size w1 v1 []) (hv1 : v1.ownBlock = v.ownBlock) (hk : Kept wr w1 (fun i => i = pb))
    (hm : OB 5 wr.heap.size w1 (.slice (some ⟨g, 0, none⟩) n q) (upd fl cn fx (cur (fx.length + av.length) L L.length) av)) :
    ∃ xs, w1.ownsRow w0.heap.size 23 1 mv (gr (fx.length + av.length) L L.length).length xs ∧ w0.heap.size ≤ w1.heap.size ∧ ∀ o mv2 w2, w2.ownsRow w0.heap.size 23 1 mv2 ((gr (fx.length + av.length) L L.length).length + 1) (xs ++ [.slice (some ⟨g, 0, none⟩) n q]) → Ext (w1.alloc o) w2 mv mv2 →
      Kept w0 w2 (fun i => i = pb) ∧ Mm w0.heap.size w2 mv2 v1 ((groups (fx.length + av.length) L).map fun g => upd fl cn fx g av) := by
  have hk0 := h.kept.trans hk
  obtain ⟨xs, m1, m2, m3⟩ := h.hM.step (v' := v1) hpb (hk.mono (fun _ _ q => .inl q)) (.inl hv1)
  have hlt := World.ownsRow.lt m1
  obtain ⟨ys, y1, _⟩ := h.hM
  have hmvr := World.ownsRow.lt y1
  have hs := h.kept.size
  refine ⟨xs, by simpa using m1, hk0.size, fun o mv2 w2 hown hext => ?_⟩
  have hkx := Kept.ofExt hext.of_alloc
  have hpush := Mm.push (M := upd fl cn fx (cur (fx.length + av.length) L L.length) av) m1 m2 m3 (hm.base (fun i hi => Nat.le_trans hs (hm.lt i hi).1)) (fun i hi q => by rw [hv1] at q; have h1 := (hm.lt i hi).1; have h2 := (h.hO.lt i q).2; omega)
    (fun i hi q => by have h1 := (hm.lt i hi).1; have h2 := (hmvr i q).2; omega) hO (by simpa using hown) hext
  refine ⟨hk0.next hkx (fun i hi q => ?_), ?_⟩
  · have := (hlt i q).1
    omega
  · rw [groups, if_neg hne, List.map_append]
    exact hpush
end

/-- How 'updateMessages' ends. -/
def Updated (fl : Int) (cn pb : Nat) (fx av : List UInt8) (L : List (List UInt8)) (w : World) (e : Ending) (w' : World) : Prop :=
  ∃ mv v, e = .returned (.tuple #[mv, .nilIface]) ∧ Kept w w' (fun i => i = pb) ∧ Mm w.heap.size w' mv v ((groups (fx.length + av.length) L).map fun g => upd fl cn fx g av)

set_option maxRecDepth 100000 in
set_option maxHeartbeats 2000000 in
theorem update_any {wl : World} {fl fy : Int} {cn : Nat} {fa : Option Addr} {cf : Nat} {fx : List UInt8} {aa : Option Addr} {ca : Nat} {av : List UInt8} {la : Option Addr} {L : List (List UInt8)} (E : Env wl fl fy cn fa cf fx aa ca av la L)
    (pb lc : Nat) (w : World) (hb : Below wl.heap.size wl w) (hpb : wl.heap.size ≤ pb) (hlen : L.length ≤ 4096)
    (hP : PKb w pb 132 (.int .u8 cn) (.slice fa fx.length cf) (.slice aa av.length ca) (.slice none 0 0)) :
    Calls Tryf.prog 44 #[.slice none 0 0, .pointer (some ⟨pb, 0, none⟩), .slice la L.length lc] w (Updated fl cn pb fx av L w) := by
  obtain ⟨i0, hi, hz0, hz1, hz2⟩ := info_parts Tryf.info23
  have HE : Hid (Env wl fl fy cn fa cf fx aa ca av la L) := E
  have HB : Hid (Below wl.heap.size wl w) := hb
  have hpl := hP.lt
  have HS0 : Hid (St w pb fl cn fx av L (.int .u8 cn) (.slice fa fx.length cf) (.slice aa av.length ca) w (.slice none 0 0) (.slice none 0 0) 0) := ⟨Kept.refl _ _, hP, by rw [cur_zero]; exact OB.nil _ _ _, Mm.nil _ _ _⟩
  clear E hb hP
  go_enter Tryf.func44, Tryf.ntmps44
  go_wp2
  go_loopw [0, 15] (fun m i wr => ∃ (k : Nat) (v : Value), k ≤ L.length ∧ i = .int .i64 k ∧ Hid (St w pb fl cn fx av L (.int .u8 cn) (.slice fa fx.length cf) (.slice aa av.length ca) wr m v k)) (fun _ i _ => L.length - (intOf i).toNat)
  case atStart => exact ⟨0, _, Nat.zero_le _, rfl, HS0⟩
  case round =>
    obtain ⟨k, v, hk, rfl, HS⟩ := hrel
    have HBr : Hid (Below wl.heap.size wl wr) := HB.out.trans (HS.out.kept.below (Nat.le_of_lt (Nat.lt_of_le_of_lt hpb hpl)) (fun i h => by have : i = pb := h; omega))
    have hsz := HS.out.kept.size
    have HVp : Hid (v.ownBlock ≠ some pb) := HS.out.vp hpl
    by_cases hlt : k < L.length
    · obtain ⟨b, off, ba, cb, hla, hcl, hVb, hnb⟩ := HE.out.hL.at hlt
      subst hla
      have hcell := cell_later HBr.out hcl
      have HVb : Hid (View wl ba (bc (el L k))) := hVb
      have HNb : Hid (ba = none → el L k = []) := hnb
      have i1 : (0 : Int) ≤ (k : Int) := by omega
      have i2 : (k : Int) < (L.length : Int) := by omega
      clear hcl hVb hnb
      by_cases hf : 4069 < (fx.length + av.length) + (cur (fx.length + av.length) L k).length + (el L k).length
      · have HF : Hid (4069 < (fx.length + av.length) + (cur (fx.length + av.length) L k).length + (el L k).length) := hf
        clear hf
        have hgl := gr_le (fx.length + av.length) L k
        go_wp2_with (first
          | (go_at_call 41; go_must (refine (add_env HE.out pb w.heap.size k v ba cb wr HBr.out hpb hsz hlt HS.out.hP HS.out.hO HVp.out HVb.out HNb.out).mono ?_); intro e w1 hA; obtain ⟨g1, n1, q1, v1, rfl, hP1, hO1, hl1, hk1, hm1, hgv1⟩ := hA.flush hlt HF.out; obtain ⟨xs, hxs, hs1, hnext⟩ := HS.out.pushed hpl hlt HF.out hP1 hO1 hl1 hk1 hm1 hgv1; have HX : Hid (w1.ownsRow w.heap.size 23 1 u0 (gr (fx.length + av.length) L k).length xs) := hxs; have HN : Hid (∀ o mv2 w2, w2.ownsRow w.heap.size 23 1 mv2 ((gr (fx.length + av.length) L k).length + 1) (xs ++ [.slice (some ⟨g1, 0, none⟩) n1 q1]) → Ext (w1.alloc o) w2 u0 mv2 → St w pb fl cn fx av L (.int .u8 cn) (.slice fa fx.length cf) (.slice aa av.length ca) w2 mv2 v1 (k + 1)) := hnext; clear hA hP1 hO1 hl1 hk1 hm1 hgv1 hxs hnext)
          | (at_builtin; go_must (refine wpList_append_any _ rfl (.tmp 30) (.tmp 32) 37 37 rfl w.heap.size 23 i0 (.slice none 0 0) 1 24 Tryf.underlying37 hi hz0 hz1 hz2 rfl u0 _ xs rfl (World.ownsRow.alloc HX.out _) _ 1 [.slice (some ⟨g1, 0, none⟩) n1 q1] rfl (Src.one w1 Tryf.underlying37 _ _ _ 23) (by unfold maxLen; omega) (by omega) (by simp; omega) ?_); intro mv2 w2 hown2 hext2 hx1 hx2; have HS2 : Hid (St w pb fl cn fx av L (.int .u8 cn) (.slice fa fx.length cf) (.slice aa av.length ca) w2 mv2 v1 (k + 1)) := HN.out _ mv2 w2 hown2 hext2; clear hown2 hext2 hx1 hx2)
          | fail)
        go_roundw
        case rel => exact ⟨k + 1, v1, by omega, by go_num, HS2⟩
        case measure => simp [intOf]; omega
      · have HF : Hid (¬ 4069 < (fx.length + av.length) + (cur (fx.length + av.length) L k).length + (el L k).length) := hf
        clear hf
        go_wp2_with (first
          | (go_at_call 41; go_must (refine (add_env HE.out pb w.heap.size k v ba cb wr HBr.out hpb hsz hlt HS.out.hP HS.out.hO HVp.out HVb.out HNb.out).mono ?_); intro e w1 hA; obtain ⟨v1, rfl, hP1, hO1, hl1, hk1⟩ := hA.stay hlt HF.out; have HS1 : Hid (St w pb fl cn fx av L (.int .u8 cn) (.slice fa fx.length cf) (.slice aa av.length ca) w1 u0 v1 (k + 1)) := (by have h := HS.out.added hpl hP1 hO1 hl1 hk1; exact ⟨h.1, hP1, hO1, by rw [(cur_stay hlt HF.out).2.1]; exact h.2⟩); clear hA hP1 hO1 hl1 hk1)
          | fail)
        go_roundw
        case rel => exact ⟨k + 1, v1, by omega, by go_num, HS1⟩
        case measure => simp [intOf]; omega
    · obtain rfl : k = L.length := by omega
      have hgl := gr_le (fx.length + av.length) L L.length
      by_cases h0 : L.length = 0
      · have hc0 : cur (fx.length + av.length) L L.length = [] := by rw [h0]; exact cur_zero _ _
        have HE0 : Hid (Mm w.heap.size wr u0 v ((groups (fx.length + av.length) L).map fun g => upd fl cn fx g av)) := by
          rw [Hid, groups, if_pos hc0]
          exact HS.out.hM
        have HO0 : Hid (OB 5 w.heap.size wr v []) := by rw [Hid, ← hc0]; exact HS.out.hO
        clear hc0
        go_wp2_with (first
          | (go_at_call 42; go_must (refine (flush_none pb _ _ _ v w.heap.size wr HS.out.hP HO0.out).mono ?_); rintro e w1 ⟨rfl, rfl⟩)
          | fail)
        refine bodyPost_ret (v := .tuple #[u0, .nilIface]) (by simp [results, Tryf.results44, go_sem]) rfl ?_
        exact ⟨u0, v, rfl, HS.out.kept, HE0.out⟩
      · have hLp : 0 < L.length := by omega
        have hne := cur_ne (F := fx.length + av.length) HE.out.ne L.length hLp (Nat.le_refl _)
        have HNe : Hid (cur (fx.length + av.length) L L.length ≠ []) := hne
        have hfit := HE.out.fit 0 hLp
        have hcur := cur_fits (F := fx.length + av.length) (L := L) (.inl (by omega)) HE.out.fit L.length (Nat.le_refl _) hLp
        have E' := HE.out
        have HFl : Hid (Calls Tryf.prog 42 #[.pointer (some ⟨pb, 0, none⟩)] wr _) := flush_some fl fy cn w.heap.size pb fa cf fx aa ca av v (cur (fx.length + av.length) L L.length) wr E'.hc E'.hf0 E'.hf E'.hx E'.hx0 E'.hx1 HS.out.hP E'.hfc E'.hcf E'.hfn (E'.hVf.all HBr.out) (E'.hVa.all HBr.out) E'.hna
          (fun k o h => by have := E'.hpa k o h; omega) HS.out.hO hne HVp.out (cell_later HBr.out E'.hg) (Nat.lt_of_lt_of_le E'.h5 hpb) (by omega)
        clear hne E' hfit hcur h0
        go_wp2_with (first
          | (go_at_call 42; go_must (refine HFl.out.mono ?_); rintro e w1 ⟨m1, v1, rfl, hm1, -, hO1, hv1, hk1⟩; obtain ⟨g1, n1, q1, hmf⟩ := upd_form hm1; subst hmf; obtain ⟨xs, hxs, hs1, hnext⟩ := HS.out.ended hpl HNe.out hO1 hv1 hk1 hm1; have HX : Hid (w1.ownsRow w.heap.size 23 1 u0 (gr (fx.length + av.length) L L.length).length xs) := hxs; have HN : Hid (∀ o mv2 w2, w2.ownsRow w.heap.size 23 1 mv2 ((gr (fx.length + av.length) L L.length).length + 1) (xs ++ [.slice (some ⟨g1, 0, none⟩) n1 q1]) → Ext (w1.alloc o) w2 u0 mv2 → Kept w w2 (fun i => i = pb) ∧ Mm w.heap.size w2 mv2 v1 ((groups (fx.length + av.length) L).map fun g => upd fl cn fx g av)) := hnext; clear hO1 hk1 hm1 hxs hnext hv1)
          | (at_builtin; go_must (refine wpList_append_any _ rfl (.tmp 39) (.tmp 41) 37 37 rfl w.heap.size 23 i0 (.slice none 0 0) 1 24 Tryf.underlying37 hi hz0 hz1 hz2 rfl u0 _ xs rfl (World.ownsRow.alloc HX.out _) _ 1 [.slice (some ⟨g1, 0, none⟩) n1 q1] rfl (Src.one w1 Tryf.underlying37 _ _ _ 23) (by unfold maxLen; omega) (by omega) (by simp; omega) ?_); intro mv2 w2 hown2 hext2 hx1 hx2; have HS2 : Hid (Kept w w2 (fun i => i = pb) ∧ Mm w.heap.size w2 mv2 v1 ((groups (fx.length + av.length) L).map fun g => upd fl cn fx g av)) := HN.out _ mv2 w2 hown2 hext2; clear hown2 hext2 hx1 hx2)
          | fail)
        refine bodyPost_ret (v := .tuple #[mv2, .nilIface]) (by simp [results, Tryf.results44, go_sem]) rfl ?_
        exact ⟨mv2, v1, rfl, HS2.out.1, HS2.out.2⟩

end Go.Proofs.Qxb6003713aFmt
