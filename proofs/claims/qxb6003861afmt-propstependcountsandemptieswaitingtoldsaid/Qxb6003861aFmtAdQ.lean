import Derived.Test.Qxb6003861aFmtAdP
import Derived.BigRegion
import Derived.Deep.RegionHeld3
namespace Go.Proofs.Qxb6003861aFmt
open Go.RowKit
set_option linter.unusedVariables false
set_option linter.unusedSimpArgs false
variable {B : Nat}

/-- What comes of the tallies of what was received. -/
def RR (limit : Int) (r r' : List Int) (i : Nat) : Prop := r'.length = r.length ∧ (∀ k, k < i → r'.getD k 0 ≤ max limit (r.getD k 0)) ∧ ∀ k, i ≤ k → r'.getD k 0 = r.getD k 0

theorem ES.box {w : World} {c : SC} {s r : List Int} {M K rb tb g cap e0 i xb : Nat} {xs : Array Value} (h : ES B w c s r M K rb tb g cap e0 i) (hB : Blk w xb 66 xs) (hxB : B ≤ xb) (hx : xb ≠ g) (v : Value) : ES B (w.setCell ⟨xb, 0, none⟩ v) c s r M K rb tb g cap e0 i ∧ Tame B true w (w.setCell ⟨xb, 0, none⟩ v) (fun k => c.own k ∨ k = tb) := by
  have k : Tame B false w (w.setCell ⟨xb, 0, none⟩ v) (fun k => k = xb) := Tame.ofKept (Kept.one _ _ _ _)
  obtain ⟨cur, hg, he⟩ := h.em
  obtain ⟨wv, h3, hW⟩ := h.st.sb
  have h2 := Blk.tame h3 k (fun q => hB.notT (T' := 70) (by decide) _ (by rw [← q]; exact h3)) (hardF _ (by decide) (by decide))
  have e1 : w.cell? ⟨c.sb, 5, none⟩ = some wv := Blk.cell h3 5
  rw [h.c5] at e1
  cases e1
  have hst := h.st.redo k (fun j q => by subst q; exact h.st.off hB (by decide) (by decide) (by decide) (by decide) (by decide)) ⟨_, h2, hW.tame k (.inl rfl) (hardF _ (by decide) (by decide)) (fun j q => .inr (by subst q; intro e; exact hx (by simpa [Value.ownBlock] using e.symm))) (fun j q => by subst q; exact hB.notT (by decide))⟩
  refine ⟨h.next k (fun j q => by subst q; exact hB.out (by decide) (by decide) (by decide) (by decide) (by decide)) hst ⟨cur, hg.tame k (fun e => hx e.symm) (hardF _ (by decide) (by decide)), he⟩, k.os, k.tape, k.output, k.size, fun j hj hX => ?_⟩
  by_cases e : j = xb
  · subst e
    exact .inr ⟨hxB, .inl ⟨rfl, _, _, hB, hB.set 0 v⟩⟩
  · exact (k.up true).block j hj e

theorem RR.step {limit : Int} {r r' : List Int} {i : Nat} {x : Int} (h : RR limit r r' i) (hx : x ≤ max limit (r.getD i 0)) : RR limit r (r'.set i x) (i + 1) := by
  refine ⟨by simpa using h.1, fun k hk => ?_, fun k hk => ?_⟩
  · by_cases e : i = k
    · subst e
      by_cases hl : i < r'.length
      · simp only [List.getD_eq_getElem?_getD, List.getElem?_set_self hl, Option.getD_some] at hx ⊢
        exact hx
      · rw [List.set_eq_of_length_le (by omega)]
        rw [h.2.2 i (Nat.le_refl _)]
        omega
    · simp only [List.getD_eq_getElem?_getD, List.getElem?_set_ne e]
      simpa only [List.getD_eq_getElem?_getD] using h.2.1 k (by omega)
  · simp only [List.getD_eq_getElem?_getD, List.getElem?_set_ne (show i ≠ k by omega)]
    simpa only [List.getD_eq_getElem?_getD] using h.2.2 k (by omega)
theorem ST.side {w : World} {c : SC} {s r : List Int} {M K kb : Nat} {T : TypeId} {xs : Array Value} (h : ST B w c s r M K) (hB : Blk w kb T xs) (h1 : T ≠ 70) (h2 : T ≠ 42) (h3 : T ≠ 43) (h4 : T ≠ 3) (h5 : T ≠ 2) (h6 : T ≠ 47) (h7 : T ≠ 66) (h8 : T ≠ 76) {w' : World} (k : Tame B false w w' (fun k => k = kb)) : ST B w' c s r M K := by
  obtain ⟨wv, hs, hW⟩ := h.sb
  exact h.redo k (fun j q => by subst q; exact h.off hB h2 h3 h4 h5 h6) ⟨wv, Blk.tame hs k (fun q => hB.notT h1 _ (by rw [← q]; exact hs)) (hardF _ (by decide) (by decide)), hW.tame k (.inl rfl) (hardF _ (by decide) (by decide)) (fun j q => .inl (by subst q; exact hB.notT h7)) (fun j q => by subst q; exact hB.notT h8)⟩
theorem ES.done {w : World} {c : SC} {s r : List Int} {M K rb tb g cap e0 : Nat} (h : ES B w c s r M K rb tb g cap e0 c.ids.length) : ST B w c s r M 0 := by
  obtain ⟨wv, hs, hW⟩ := h.st.sb
  obtain ⟨cur, hg, he⟩ := h.em
  have e1 : w.cell? ⟨c.sb, 5, none⟩ = some wv := Blk.cell hs 5
  rw [h.c5] at e1
  cases e1
  rcases hW with q | ⟨g', cap', cur', q, h2, h3, h4, h6⟩
  · cases q
  cases q
  have e2 : cur' = cur := by
    have a : w.heap[g]? = some (.cells cur' 66 (0, 0)) := h3
    have b : w.heap[g]? = some (.cells cur 66 (0, 0)) := hg
    rw [a] at b
    cases b
    rfl
  subst e2
  refine ⟨⟨_, hs, .inr ⟨g, cap, cur', rfl, h2, h3, h4, fun i hi => ?_⟩⟩, h.st.nb, h.st.nv, h.st.le, h.st.lg, h.st.si, h.st.ri, h.st.sl, h.st.rl, h.st.ne⟩
  obtain ⟨ao, cp, e3⟩ := he i hi
  obtain ⟨v, m, e4, h7, h8⟩ := h6 i hi
  rw [e3] at e4
  cases e4
  refine ⟨_, 0, e3, ?_, Nat.le_refl _⟩
  obtain ⟨a, b, e5⟩ := h7.form
  cases e5
  exact h7
theorem ST.zero {w : World} {c : SC} {s r : List Int} {M K : Nat} (h : ST B w c s r M K) (h5 : w.cell? ⟨c.sb, 5, none⟩ = some (.slice none 0 0)) : ST B w c s r M 0 := by
  obtain ⟨wv, hs, hW⟩ := h.sb
  have e1 : w.cell? ⟨c.sb, 5, none⟩ = some wv := Blk.cell hs 5
  rw [h5] at e1
  cases e1
  exact ⟨⟨_, hs, .inl rfl⟩, h.nb, h.nv, h.le, h.lg, h.si, h.ri, h.sl, h.rl, h.ne⟩
/-- The greatest of the first i, or 0. -/
def mxs (l : List Int) : Nat → Int
  | 0 => 0
  | i + 1 => if mxs l i < l.getD i 0 then l.getD i 0 else mxs l i
def Ended (B : Nat) (w : World) (c : SC) (s r : List Int) (M K tb : Nat) (e : Ending) (w' : World) : Prop := ∃ r', e = .returned (.agg #[.int .i64 (mxs s c.ids.length), .int .i64 (mxs r' c.ids.length)]) ∧ ST B w' c s r' (M + c.ids.length * K) 0 ∧ Tame B true w w' (fun k => c.own k ∨ k = tb) ∧ RR c.limit r r' c.ids.length
/-- The last loop, at work. -/
structure EZ (B : Nat) (w0 w : World) (c : SC) (s r : List Int) (M eb kb i tb : Nat) : Prop where
  st : ST B w c s r M 0
  fr : Tame B true w0 w (fun k => c.own k ∨ k = tb)
  ne : kb ≠ eb
  new : w0.heap.size ≤ kb ∧ w0.heap.size ≤ eb
  e0 : Blk w eb 28 #[.int .i64 0, .int .i64 0]
  kb : Blk w kb 28 #[.int .i64 (mxs s i), .int .i64 (mxs r i)]
theorem EZ.fst {w0 w : World} {c : SC} {s r : List Int} {M eb kb i tb : Nat} (h : EZ B w0 w c s r M eb kb i tb) (a b : Int) : ST B ((w.setCell ⟨kb, 0, none⟩ (.int .i64 a)).drew) c s r M 0 ∧ Blk ((w.setCell ⟨kb, 0, none⟩ (.int .i64 a)).drew) kb 28 #[.int .i64 a, .int .i64 (mxs r i)] ∧
    ST B ((((w.setCell ⟨kb, 0, none⟩ (.int .i64 a)).drew).setCell ⟨kb, 1, none⟩ (.int .i64 b)).drew) c s r M 0 ∧ Tame B true w0 ((((w.setCell ⟨kb, 0, none⟩ (.int .i64 a)).drew).setCell ⟨kb, 1, none⟩ (.int .i64 b)).drew) (fun k => c.own k ∨ k = tb) ∧
    Blk ((((w.setCell ⟨kb, 0, none⟩ (.int .i64 a)).drew).setCell ⟨kb, 1, none⟩ (.int .i64 b)).drew) eb 28 #[.int .i64 0, .int .i64 0] ∧ Blk ((((w.setCell ⟨kb, 0, none⟩ (.int .i64 a)).drew).setCell ⟨kb, 1, none⟩ (.int .i64 b)).drew) kb 28 #[.int .i64 a, .int .i64 b] := by
  have k1 : Kept w ((w.setCell ⟨kb, 0, none⟩ (.int .i64 a)).drew) (fun k => k = kb) := (Kept.one _ _ _ _).drew
  have k2 : Kept w ((((w.setCell ⟨kb, 0, none⟩ (.int .i64 a)).drew).setCell ⟨kb, 1, none⟩ (.int .i64 b)).drew) (fun k => k = kb) := (k1.set (.inl rfl) _).drew
  have b1 : Blk ((w.setCell ⟨kb, 0, none⟩ (.int .i64 a)).drew) kb 28 #[.int .i64 a, .int .i64 (mxs r i)] := (h.kb.set 0 _).drew
  exact ⟨h.st.side h.kb (by decide) (by decide) (by decide) (by decide) (by decide) (by decide) (by decide) (by decide) (Tame.ofKept k1), b1,
    h.st.side h.kb (by decide) (by decide) (by decide) (by decide) (by decide) (by decide) (by decide) (by decide) (Tame.ofKept k2),
    h.fr.next (Tame.ofKept k2) (fun j hj q => by subst q; exact absurd h.new.1 (by omega)), h.e0.kept k2 (fun e => h.ne e.symm), (b1.set 1 _).drew⟩

set_option maxRecDepth 100000 in
set_option maxHeartbeats 4000000 in
theorem end_some (w : World) (c : SC) (s r : List Int) (M K rb tb g cap : Nat) (h : ST B w c s r M K) (hR : RP w rb tb) (hc5 : w.cell? ⟨c.sb, 5, none⟩ = some (.slice (some ⟨g, 0, none⟩) c.ids.length cap)) (hK : K ≤ 256) (hM : M ≤ 100000) (hl : InR c.limit) (hr : ∀ k, InR (r.getD k 0)) (hs : ∀ k, k < c.ids.length → InR (c.limit - r.getD k 0)) :
    Calls Tryf.prog 20 #[.pointer (some ⟨c.sb, 0, none⟩), .pointer (some ⟨rb, 0, none⟩)] w (Ended B w c s r M K tb) := by
  have HE : Hid (ES B (w.alloc (.cells #[.int .i64 0, .int .i64 0] 28)) c s r M K rb tb g cap w.heap.size 0) := by
    obtain ⟨wv, h1, h2⟩ := h.sb
    have e1 : w.cell? ⟨c.sb, 5, none⟩ = some wv := Blk.cell h1 5
    rw [hc5] at e1
    cases e1
    rcases h2 with h2 | ⟨g', cap', cur, e, _, hB, _⟩
    · cases h2
    cases e
    exact ⟨h.alloc _, hR.tame (B := B) ((Tame.refl false w (fun _ => False)).alloc _) (fun _ q => q.elim), Blk.cell (Blk.alloc h1 _) 5, ⟨cur, hB.alloc _, fun k hk => absurd hk (Nat.not_lt_zero _)⟩, Blk.new w 28 _⟩
  have HT : Hid (Tame B true w (w.alloc (.cells #[.int .i64 0, .int .i64 0] 28)) (fun k => c.own k ∨ k = tb)) := (Tame.refl _ _ _).alloc _
  obtain ⟨n, hn⟩ : ∃ n, n = c.ids.length := ⟨_, rfl⟩
  have HNn := Hid.mk'' hn
  obtain ⟨ca, hca⟩ : ∃ ca, ca = c.cao := ⟨_, rfl⟩
  have Hca := Hid.mk'' hca
  clear hca
  have h64 : n ≤ 64 := by rw [hn]; exact h.le
  have hm : ∀ w, (method 214 40 (.pointer (some ⟨c.nb, 0, none⟩)) "IDs").run Tryf.prog w = .ok (51, .pointer (some ⟨c.nb, 0, none⟩)) w := fun _ => by kernel_rfl
  have HRr := Hid.mk'' hr
  have HSs := Hid.mk'' hs
  have Hl := Hid.mk'' hl
  clear h hR hc5 hn hr hs hl
  go_enter Tryf.func20, Tryf.ntmps20
  go_upto_region 1 with fail
  obtain ⟨W0, hW0⟩ : ∃ W0, W0 = w.alloc (.cells #[.int .i64 0, .int .i64 0] 28) := ⟨_, rfl⟩
  obtain ⟨eb, heb⟩ : ∃ eb, eb = w.heap.size := ⟨_, rfl⟩
  rw [← hW0] at HE HT ⊢
  rw [← heb] at HE ⊢
  have Heb := Hid.mk'' heb
  clear hW0 heb
  have c2 := HE.out.st.c2
  have c5 : W0.cell? ⟨c.sb, 5, none⟩ = some (.slice (some ⟨g, 0, none⟩) n cap) := by rw [HNn.out]; exact HE.out.c5
  go_wp2_with (first | (refine (ids_any _ c.nb c.cao c.ccap c.ids HE.out.st.nd).mono ?_; rintro e w1 ⟨rfl, hw1⟩; subst hw1; rw [← HNn.out, ← Hca.out]) | fail)
  have HE1 : Hid (ES B w1 c s r M K rb tb g cap eb 0) := HE
  go_loopw [27] (fun a wr => ∃ (i : Nat) (r' : List Int), i ≤ n ∧ a = .int .i64 i ∧ Hid (ES B wr c s r' (M + i * K) K rb tb g cap eb i ∧ Tame B true w wr (fun k => c.own k ∨ k = tb) ∧ RR c.limit r r' i)) (fun a _ => n - (intOf a).toNat)
  case atStart => exact ⟨0, r, Nat.zero_le _, rfl, by rw [Nat.zero_mul]; exact HE1.out, HT.out, rfl, fun k hk => absurd hk (Nat.not_lt_zero _), fun _ _ => rfl⟩
  case round =>
    obtain ⟨i, r', hi, rfl, HA⟩ := hrel
    by_cases hlt : i < n
    · have HL : Hid (i < c.ids.length) := by rw [← HNn.out]; exact hlt
      obtain ⟨ao, m, k, cj, hI, hmK⟩ := HA.out.1.at HL.out
      have d5 : wr.cell? ⟨c.sb, 5, none⟩ = some (.slice (some ⟨g, 0, none⟩) n cap) := by rw [HNn.out]; exact HA.out.1.c5
      have HI := Hid.mk'' hI
      have i1 : (i : Int) < (n : Int) := by omega
      clear hI
      go_upto_region 7 with fail
      obtain ⟨W1, hW1⟩ : ∃ W1, W1 = wr.alloc (.cells #[.slice ao m k] 66) := ⟨_, rfl⟩
      obtain ⟨xb, hxb⟩ : ∃ xb, xb = wr.heap.size := ⟨_, rfl⟩
      have hta : Tame B false wr W1 (fun _ => False) := by rw [hW1]; exact (Tame.refl _ _ _).alloc _
      have HA1 : Hid (ES B W1 c s r' (M + i * K) K rb tb g cap eb i) := HA.out.1.quiet hta
      have HT1 : Hid (Tame B true w W1 (fun k => c.own k ∨ k = tb)) := HA.out.2.1.trans ((hta.up true).mono fun _ _ q => q.elim)
      have HI1 : Hid (IR B 76 2 W1 (.slice ao m k) m) := HI.out.tame (.inl rfl) hta (fun _ q => q.elim)
      have HBx : Hid (Blk W1 xb 66 #[.slice ao m k]) := by rw [hW1, hxb]; exact Blk.new wr 66 _
      have HRR : Hid (RR c.limit r r' i) := HA.out.2.2
      have Hxg : Hid (xb ≠ g ∧ B ≤ xb) := by { obtain ⟨cur, hg, _⟩ := HA.out.1.em; have := hg.lt; have h9 := HA.out.1.st.bw; exact ⟨by omega, by omega⟩ }
      rw [← hW1, ← hxb]
      clear hta hW1 hxb HI HA d5 cj
      obtain ⟨z, hz⟩ : ∃ z, z = r'.getD i 0 := ⟨_, rfl⟩
      obtain ⟨lim, hlim⟩ : ∃ lim, lim = c.limit := ⟨_, rfl⟩
      have hzr : z = r.getD i 0 := by rw [hz]; exact HRR.out.2.2 i (Nat.le_refl _)
      obtain ⟨D, hD⟩ : ∃ D, D = lim - z := ⟨_, rfl⟩
      have hDr : InR D := by rw [hD, hlim, hzr]; exact HSs.out i HL.out
      have hzR : InR z := by rw [hzr]; exact HRr.out i
      have eD : IntKind.i64.wrap (lim - z) = D := by { rw [← hD, IntKind.wrap_i64]; unfold InR at hDr; omega }
      have HD : Hid (D = lim - z ∧ lim = c.limit ∧ z = r'.getD i 0 ∧ z = r.getD i 0 ∧ InR D ∧ InR z) := ⟨hD, hlim, hz, hzr, hDr, hzR⟩
      have q0 : W1.cell? ⟨c.sb, 0, none⟩ = some (.int .i64 lim) := by { obtain ⟨wv, h1, _⟩ := HA1.out.st.sb; rw [hlim]; exact Blk.cell h1 0 }
      obtain ⟨gr, q4, qz, _, _, _⟩ := HA1.out.gr HL.out 0
      rw [← HNn.out] at q4
      rw [← hz] at qz
      have qx : W1.cell? ⟨xb, 0, none⟩ = some (.slice ao m k) := HBx.out.cell 0
      clear hz hlim hzr hD hDr hzR
      go_region
      obtain ⟨R, hR⟩ : ∃ R : Nat, (if 0 < D then D else 0) = (R : Int) := by
        by_cases h0 : 0 < D
        · exact ⟨D.toNat, by rw [if_pos h0]; omega⟩
        · exact ⟨0, by rw [if_neg h0]; rfl⟩
      rw [hR]
      have HRm0 : Hid ((R : Int) = 0 ∨ (R : Int) = D) := by
        by_cases h0 : 0 < D
        · rw [if_pos h0] at hR; exact .inr hR.symm
        · rw [if_neg h0] at hR; exact .inl hR.symm
      clear hR q0 q4 qz
      by_cases hfit : m ≤ R
      · obtain ⟨V, hV⟩ : ∃ V, V = W1.drew := ⟨_, rfl⟩
        obtain ⟨t, ht⟩ : ∃ t, t = m := ⟨_, rfl⟩
        have htm : t ≤ m := by omega
        have HRm : Hid ((t : Int) ≤ 0 ∨ (t : Int) ≤ D) := by
          rcases HRm0.out with h | h
          · exact .inl (by omega)
          · exact .inr (by omega)
        have HV : Hid (ES B V c s r' (M + i * K) K rb tb g cap eb i) := by rw [hV]; exact HA1.out.quiet (Tame.refl _ _ _).drew
        have HTV : Hid (Tame B true w V (fun k => c.own k ∨ k = tb)) := by rw [hV]; exact HT1.out.drew
        have HIm : Hid (IR B 76 2 V (.slice ao m k) m) := by rw [hV]; exact HI1.out.tame (.inl rfl) (Tame.refl false _ _).drew (fun _ (q : False) => q.elim)
        have HIt : Hid (IR B 76 2 V (.slice ao t k) t) := by rw [ht]; exact HIm.out
        have HBx : Hid (Blk V xb 66 #[.slice ao t k]) := by rw [hV, ht]; exact HBx.out
        have i8 : ¬ (R : Int) < (m : Int) := by omega
        have qx : V.cell? ⟨xb, 0, none⟩ = some (.slice ao m k) := by rw [← ht]; exact HBx.out.cell 0
        rw [← hV]
        clear hV HA1 HT1 HI1
        go_upto_region 11 with fail
        clear ht qx i8 hfit
        obtain ⟨x, hx⟩ : ∃ x, x = z + (t : Int) := ⟨_, rfl⟩
        have ex : IntKind.i64.wrap (z + (t : Int)) = x := by { rw [hx, IntKind.wrap_i64]; have h1 := HD.out.2.2.2.2.1; have h2 := HD.out.2.2.2.2.2; have h3 := HD.out.1; have h4 := Hl.out; have h5 := HD.out.2.1; unfold InR at h1 h2 h4; have h6 := HRm.out; omega }
        obtain ⟨gr, q4, qz, fr, hBr, hE3, hT3⟩ := HV.out.gr HL.out x
        obtain ⟨ys, hBr⟩ := hBr
        have hxr : ¬ xb = gr := by { intro e; exact hBr.notT (T' := 66) (by decide) _ (by rw [← e]; exact HBx.out) }
        have hxr' : ¬ gr = xb := fun e => hxr e.symm
        have H3 : Hid (ES B ((V.setCell ⟨gr, i, none⟩ (.int .i64 x)).drew) c s (r'.set i x) (M + i * K) K rb tb g cap eb i ∧ Tame B true w ((V.setCell ⟨gr, i, none⟩ (.int .i64 x)).drew) (fun k => c.own k ∨ k = tb)) := ⟨hE3.quiet (Tame.refl _ _ _).drew, (HTV.out.trans (hT3.mono fun _ _ q => .inl q)).drew⟩
        have hkr : Tame B false V ((V.setCell ⟨gr, i, none⟩ (.int .i64 x)).drew) (fun k => k = gr) := (Tame.ofKept (Kept.one _ _ _ _)).drew
        have HIm3 : Hid (IR B 76 2 ((V.setCell ⟨gr, i, none⟩ (.int .i64 x)).drew) (.slice ao m k) m) := HIm.out.tame (.inl rfl) hkr (fun j q => by subst q; exact hBr.notT (by decide))
        have HIt3 : Hid (IR B 76 2 ((V.setCell ⟨gr, i, none⟩ (.int .i64 x)).drew) (.slice ao t k) t) := HIt.out.tame (.inl rfl) hkr (fun j q => by subst q; exact hBr.notT (by decide))
        rw [← HNn.out] at q4
        rw [← HD.out.2.2.1] at qz
        have qx : V.cell? ⟨xb, 0, none⟩ = some (.slice ao t k) := HBx.out.cell 0
        have HX : Hid (x = z + (t : Int)) := hx
        clear hx hE3 hT3 hkr hBr HIm HIt HV HTV
        go_region
        obtain ⟨W3, hW3⟩ : ∃ W3, W3 = (V.setCell ⟨gr, i, none⟩ (.int .i64 x)).drew := ⟨_, rfl⟩
        have qx3 : W3.cell? ⟨xb, 0, none⟩ = some (.slice ao t k) := by { rw [hW3]; exact (World.cell?_setCell_far _ _ _ _ (fun e => hxr e.symm)).trans qx }
        rw [← hW3] at H3 HIm3 HIt3 ⊢
        clear hW3 qx q4 qz fr HBx hxr hxr'
        go_wp2_with fail
        go_loopw [76] (fun a w4 => ∃ (q : Nat), q ≤ t ∧ a = .int .i64 q ∧ Hid (ES B w4 c s (r'.set i x) (M + i * K + q) K rb tb g cap eb i ∧ Tame B true w w4 (fun k => c.own k ∨ k = tb) ∧ IR B 76 2 w4 (.slice ao m k) m ∧ IR B 76 2 w4 (.slice ao t k) t)) (fun a _ => t - (intOf a).toNat)
        case atStart => exact ⟨0, Nat.zero_le _, rfl, H3.out.1, H3.out.2, HIm3.out, HIt3.out⟩
        case round =>
          obtain ⟨q, hq, rfl, HB⟩ := hrel
          by_cases hqt : q < t
          · obtain ⟨gx, cx, e1, _, _, _, hcells⟩ := HB.out.2.2.2.cells (by omega)
            cases e1
            obtain ⟨p0, y0⟩ := hcells (q * 2) (by omega)
            obtain ⟨p1, y1⟩ := hcells (q * 2 + 1) (by omega)
            have j1 : (q : Int) < (t : Int) := by omega
            have HMq : Hid (M + i * K + q ≤ 900000) := by { have h1 : i * K ≤ 64 * 256 := Nat.mul_le_mul (by omega) hK; show M + i * K + q ≤ 900000; omega }
            clear hcells
            go_upto_region 15 with fail
            obtain ⟨W5, hW5⟩ : ∃ W5, W5 = wr.alloc (.cells #[.int .i64 p0, .int .i64 p1] 76) := ⟨_, rfl⟩
            obtain ⟨ub, hub⟩ : ∃ ub, ub = wr.heap.size := ⟨_, rfl⟩
            have hta : Tame B false wr W5 (fun _ => False) := by { rw [hW5]; exact (Tame.refl _ _ _).alloc _ }
            have HB5 : Hid (ES B W5 c s (r'.set i x) (M + i * K + q) K rb tb g cap eb i ∧ Tame B true w W5 (fun k => c.own k ∨ k = tb) ∧ IR B 76 2 W5 (.slice (some ⟨gx, 0, none⟩) m k) m ∧ IR B 76 2 W5 (.slice (some ⟨gx, 0, none⟩) t k) t) := ⟨HB.out.1.quiet hta, HB.out.2.1.trans ((hta.up true).mono fun _ _ q => q.elim), HB.out.2.2.1.tame (.inl rfl) hta (fun _ q => q.elim), HB.out.2.2.2.tame (.inl rfl) hta (fun _ q => q.elim)⟩
            have hBu : Blk W5 ub 76 #[.int .i64 p0, .int .i64 p1] := by { rw [hW5, hub]; exact Blk.new wr 76 _ }
            have b0 : W5.cell? ⟨ub, 0, none⟩ = some (.int .i64 p0) := hBu.cell 0
            have b1 : W5.cell? ⟨ub, 1, none⟩ = some (.int .i64 p1) := hBu.cell 1
            obtain ⟨cb, ecb, _, yi⟩ := HB5.out.1.st.nv.at HL.out
            obtain ⟨y, hy⟩ : ∃ y, y = c.ids.getD i 0 := ⟨_, rfl⟩
            have hf1 := HB5.out.1.st.c1
            rw [← hy] at yi
            have HY : Hid (c.ids.getD i 0 = y) := hy.symm
            rw [← hW5, ← hub]
            have eca := Hca.out.trans ecb
            subst eca
            clear hW5 hub hta hBu HB y0 y1 hy
            refine wp_region_held_drew (S := fun W => W.cell? ⟨c.sb, 1, none⟩ = some (.func (.func 12) #[] #[.pointer (some ⟨c.lb, 0, none⟩)]) ∧ W.cell? ⟨cb, i, none⟩ = some (.int .i64 y)) (by kernel_rfl) (by exact ⟨hf1, yi⟩) (fun hHeld => ?_)
            refine wpAnyH_take (i := 0) (oi := { dst := some 80, op := Op.move (Operand.tmp 0), type := 44, pos := _, after := #[], guard := none }) (v := .pointer (some ⟨c.sb, 0, none⟩)) rfl (by kernel_rfl) (by kernel_rfl) (by kernel_rfl) (fun _ _ _ h => h) (Or.inl ⟨by rfl, fun W hSW => by go_simp⟩) (by assumption) ?_
            try simp only [Act.put, List.setIfInBounds_toArray, List.set_cons_zero, List.set_cons_succ]
            refine wpAnyH_take (i := 1) (oi := { dst := some 81, op := Op.nilCheck (Operand.tmp 80), type := 0, pos := _, after := #[{ on := 0, ground := Ground.data }], guard := none }) (v := .pointer (some ⟨c.sb, 0, none⟩)) rfl (by kernel_rfl) (by kernel_rfl) (by kernel_rfl) (fun _ _ _ h => h) (Or.inl ⟨by rfl, fun W hSW => by go_simp⟩) (by assumption) ?_
            try simp only [Act.put, List.setIfInBounds_toArray, List.set_cons_zero, List.set_cons_succ]
            refine wpAnyH_take (i := 2) (oi := { dst := some 82, op := Op.fieldAddr 70 (Operand.tmp 81) 1, type := 0, pos := _, after := #[{ on := 1, ground := Ground.data }], guard := none }) (v := .pointer (some ⟨c.sb, 1, none⟩)) rfl (by kernel_rfl) (by kernel_rfl) (by kernel_rfl) (fun _ _ _ h => h) (Or.inl ⟨by rfl, fun W hSW => by go_simp⟩) (by assumption) ?_
            try simp only [Act.put, List.setIfInBounds_toArray, List.set_cons_zero, List.set_cons_succ]
            refine wpAnyH_take (i := 3) (oi := { dst := some 83, op := Op.load 48 (Operand.tmp 82), type := 48, pos := _, after := #[{ on := 2, ground := Ground.data }], guard := none }) (v := .func (.func 12) #[] #[.pointer (some ⟨c.lb, 0, none⟩)]) rfl (by kernel_rfl) (by kernel_rfl) (by kernel_rfl) (fun _ _ _ h => h) (Or.inl ⟨by rfl, fun W hSW => by have hc2 : W.cell? ⟨c.sb, 1, none⟩ = some (.func (.func 12) #[] #[.pointer (some ⟨c.lb, 0, none⟩)]) := hSW.1; go_simp⟩) (by assumption) ?_
            try simp only [Act.put, List.setIfInBounds_toArray, List.set_cons_zero, List.set_cons_succ]
            refine wpAnyH_take (i := 4) (oi := { dst := some 84, op := Op.fieldAddr 76 (Operand.tmp 11) 0, type := 0, pos := _, after := #[], guard := none }) (v := .pointer (some ⟨ub, 0, none⟩)) rfl (by kernel_rfl) (by kernel_rfl) (by kernel_rfl) (fun _ _ _ h => h) (Or.inl ⟨by rfl, fun W hSW => by go_simp⟩) (by assumption) ?_
            try simp only [Act.put, List.setIfInBounds_toArray, List.set_cons_zero, List.set_cons_succ]
            refine wpAnyH_take (i := 6) (oi := { dst := some 86, op := Op.move (Operand.tmp 5), type := 22, pos := _, after := #[], guard := none }) (v := .slice (some ⟨cb, 0, none⟩) n c.ccap) rfl (by kernel_rfl) (by kernel_rfl) (by kernel_rfl) (fun _ _ _ h => h) (Or.inl ⟨by rfl, fun W hSW => by go_simp⟩) (by assumption) ?_
            try simp only [Act.put, List.setIfInBounds_toArray, List.set_cons_zero, List.set_cons_succ]
            refine wpAnyH_take (i := 7) (oi := { dst := some 87, op := Op.move (Operand.tmp 6), type := 3, pos := _, after := #[], guard := none }) (v := .int .i64 (i : Int)) rfl (by kernel_rfl) (by kernel_rfl) (by kernel_rfl) (fun _ _ _ h => h) (Or.inl ⟨by rfl, fun W hSW => by go_simp⟩) (by assumption) ?_
            try simp only [Act.put, List.setIfInBounds_toArray, List.set_cons_zero, List.set_cons_succ]
            refine wpAnyH_take (i := 8) (oi := { dst := some 88, op := Op.indexAddr 22 (Operand.tmp 86) (Operand.tmp 87), type := 0, pos := _, after := #[{ on := 6, ground := Ground.data }, { on := 7, ground := Ground.data }], guard := none }) (v := .pointer (some ⟨cb, i, none⟩)) rfl (by kernel_rfl) (by kernel_rfl) (by kernel_rfl) (fun _ _ _ h => h) (Or.inl ⟨by rfl, fun W hSW => by go_simp⟩) (by assumption) ?_
            try simp only [Act.put, List.setIfInBounds_toArray, List.set_cons_zero, List.set_cons_succ]
            refine wpAnyH_take (i := 9) (oi := { dst := some 89, op := Op.load 2 (Operand.tmp 88), type := 2, pos := _, after := #[{ on := 8, ground := Ground.data }], guard := none }) (v := .int .i64 y) rfl (by kernel_rfl) (by kernel_rfl) (by kernel_rfl) (fun _ _ _ h => h) (Or.inl ⟨by rfl, fun W hSW => by have hc2 : W.cell? ⟨cb, i, none⟩ = some (.int .i64 y) := hSW.2; go_simp⟩) (by assumption) ?_
            try simp only [Act.put, List.setIfInBounds_toArray, List.set_cons_zero, List.set_cons_succ]
            refine wpAnyH_take (i := 10) (oi := { dst := some 90, op := Op.fieldAddr 76 (Operand.tmp 11) 1, type := 0, pos := _, after := #[], guard := none }) (v := .pointer (some ⟨ub, 1, none⟩)) rfl (by kernel_rfl) (by kernel_rfl) (by kernel_rfl) (fun _ _ _ h => h) (Or.inl ⟨by rfl, fun W hSW => by go_simp⟩) (by assumption) ?_
            try simp only [Act.put, List.setIfInBounds_toArray, List.set_cons_zero, List.set_cons_succ]
            refine wpAnyH_ready (rs := [5, 11]) (by kernel_rfl) (by simp) ?_
            refine (AllReadyH.cons (o := { dst := some 85, op := Op.load 2 (Operand.tmp 84), type := 2, pos := _, after := #[{ on := 4, ground := Ground.data }], guard := none }) rfl (fun K hK => ?_) (AllReadyH.cons (o := { dst := some 91, op := Op.load 3 (Operand.tmp 90), type := 3, pos := _, after := #[{ on := 10, ground := Ground.data }], guard := none }) rfl (fun K hK => ?_) AllReadyH.nil))
            · go_simp
              refine hK.out _ _ (by exact hHeld) (fun hHeld => ?_)
              clear hK K
              try simp only [Act.put, List.setIfInBounds_toArray, List.set_cons_zero, List.set_cons_succ]
              refine wpAnyH_ready (rs := [11]) (by kernel_rfl) (by simp) ?_
              refine (AllReadyH.cons (o := { dst := some 91, op := Op.load 3 (Operand.tmp 90), type := 3, pos := _, after := #[{ on := 10, ground := Ground.data }], guard := none }) rfl (fun K hK => ?_) AllReadyH.nil)
              go_simp
              refine hK.out _ _ (by exact hHeld) (fun hHeld => ?_)
              clear hK K
              try simp only [Act.put, List.setIfInBounds_toArray, List.set_cons_zero, List.set_cons_succ]
              refine wpAnyH_ready (rs := [12]) (by kernel_rfl) (by simp) ?_
              refine (AllReadyH.cons (o := { dst := some 92, op := Op.call { callee := Callee.value (Operand.tmp 83), args := #[Operand.tmp 85, Operand.tmp 89, Operand.tmp 91], argTypes := #[2, 2, 3] }, type := 0, pos := _, after := #[{ on := 3, ground := Ground.data }, { on := 5, ground := Ground.data }, { on := 9, ground := Ground.data }, { on := 11, ground := Ground.data }], guard := none }) rfl (fun K hK => ?_) AllReadyH.nil)
              go_simp
              go_at_call 12
              refine ((HB5.out.1.quiet (Tame.refl _ _ _).drew).take HMq.out p0 y p1).mono ?_
              rintro e w6 ⟨rfl, h6, h7⟩
              have H6 := Hid.mk'' h6
              have H7 := Hid.mk'' h7
              clear h6 h7
              go_wp2_with fail
              have hs6 : w6.cell? ⟨c.sb, 1, none⟩ = some (.func (.func 12) #[] #[.pointer (some ⟨c.lb, 0, none⟩)]) ∧ w6.cell? ⟨cb, i, none⟩ = some (.int .i64 y) := ⟨H6.out.st.c1, by { obtain ⟨cb2, e2, _, y2⟩ := H6.out.st.nv.at HL.out; rw [ecb] at e2; cases e2; rw [y2, HY.out] }⟩
              refine hK.out _ _ hs6 (fun hHeld => ?_)
              clear hK K
              try simp only [Act.put, List.setIfInBounds_toArray, List.set_cons_zero, List.set_cons_succ]
              refine wpAnyH_done (by kernel_rfl) ?_ _
              obtain ⟨lv, hlb, _⟩ : ∃ lv, Blk W5 c.lb 43 #[lv] ∧ True := by { obtain ⟨_, _, v, hB, _⟩ := HB5.out.1.st.lg; exact ⟨v, hB, trivial⟩ }
              have hta : Tame B false W5 w6 (fun k => k = c.lb) := (Tame.refl false W5 (fun k => k = c.lb)).drew.trans H7.out
              have HZ : Hid (ES B w6 c s (r'.set i x) (M + i * K + (q + 1)) K rb tb g cap eb i ∧ Tame B true w w6 (fun k => c.own k ∨ k = tb) ∧ IR B 76 2 w6 (.slice (some ⟨gx, 0, none⟩) m k) m ∧ IR B 76 2 w6 (.slice (some ⟨gx, 0, none⟩) t k) t) := ⟨H6.out, HB5.out.2.1.trans ((hta.up true).mono fun _ _ q => .inl (.inr (.inl q))), HB5.out.2.2.1.tame (.inl rfl) hta (fun j q => by subst q; exact hlb.notT (by decide)), HB5.out.2.2.2.tame (.inl rfl) hta (fun j q => by subst q; exact hlb.notT (by decide))⟩
              clear hta hlb H6 H7 HB5 hs6 hHeld b0 b1 yi hf1
              go_wp2_with fail
              go_roundw
              case rel => exact ⟨q + 1, by omega, by go_num, HZ.out⟩
              case measure => simp [intOf]; omega
            · go_simp
              refine hK.out _ _ (by exact hHeld) (fun hHeld => ?_)
              clear hK K
              try simp only [Act.put, List.setIfInBounds_toArray, List.set_cons_zero, List.set_cons_succ]
              refine wpAnyH_ready (rs := [5]) (by kernel_rfl) (by simp) ?_
              refine (AllReadyH.cons (o := { dst := some 85, op := Op.load 2 (Operand.tmp 84), type := 2, pos := _, after := #[{ on := 4, ground := Ground.data }], guard := none }) rfl (fun K hK => ?_) AllReadyH.nil)
              go_simp
              refine hK.out _ _ (by exact hHeld) (fun hHeld => ?_)
              clear hK K
              try simp only [Act.put, List.setIfInBounds_toArray, List.set_cons_zero, List.set_cons_succ]
              refine wpAnyH_ready (rs := [12]) (by kernel_rfl) (by simp) ?_
              refine (AllReadyH.cons (o := { dst := some 92, op := Op.call { callee := Callee.value (Operand.tmp 83), args := #[Operand.tmp 85, Operand.tmp 89, Operand.tmp 91], argTypes := #[2, 2, 3] }, type := 0, pos := _, after := #[{ on := 3, ground := Ground.data }, { on := 5, ground := Ground.data }, { on := 9, ground := Ground.data }, { on := 11, ground := Ground.data }], guard := none }) rfl (fun K hK => ?_) AllReadyH.nil)
              go_simp
              go_at_call 12
              refine ((HB5.out.1.quiet (Tame.refl _ _ _).drew).take HMq.out p0 y p1).mono ?_
              rintro e w6 ⟨rfl, h6, h7⟩
              have H6 := Hid.mk'' h6
              have H7 := Hid.mk'' h7
              clear h6 h7
              go_wp2_with fail
              have hs6 : w6.cell? ⟨c.sb, 1, none⟩ = some (.func (.func 12) #[] #[.pointer (some ⟨c.lb, 0, none⟩)]) ∧ w6.cell? ⟨cb, i, none⟩ = some (.int .i64 y) := ⟨H6.out.st.c1, by { obtain ⟨cb2, e2, _, y2⟩ := H6.out.st.nv.at HL.out; rw [ecb] at e2; cases e2; rw [y2, HY.out] }⟩
              refine hK.out _ _ hs6 (fun hHeld => ?_)
              clear hK K
              try simp only [Act.put, List.setIfInBounds_toArray, List.set_cons_zero, List.set_cons_succ]
              refine wpAnyH_done (by kernel_rfl) ?_ _
              obtain ⟨lv, hlb, _⟩ : ∃ lv, Blk W5 c.lb 43 #[lv] ∧ True := by { obtain ⟨_, _, v, hB, _⟩ := HB5.out.1.st.lg; exact ⟨v, hB, trivial⟩ }
              have hta : Tame B false W5 w6 (fun k => k = c.lb) := (Tame.refl false W5 (fun k => k = c.lb)).drew.trans H7.out
              have HZ : Hid (ES B w6 c s (r'.set i x) (M + i * K + (q + 1)) K rb tb g cap eb i ∧ Tame B true w w6 (fun k => c.own k ∨ k = tb) ∧ IR B 76 2 w6 (.slice (some ⟨gx, 0, none⟩) m k) m ∧ IR B 76 2 w6 (.slice (some ⟨gx, 0, none⟩) t k) t) := ⟨H6.out, HB5.out.2.1.trans ((hta.up true).mono fun _ _ q => .inl (.inr (.inl q))), HB5.out.2.2.1.tame (.inl rfl) hta (fun j q => by subst q; exact hlb.notT (by decide)), HB5.out.2.2.2.tame (.inl rfl) hta (fun j q => by subst q; exact hlb.notT (by decide))⟩
              clear hta hlb H6 H7 HB5 hs6 hHeld b0 b1 yi hf1
              go_wp2_with fail
              go_roundw
              case rel => exact ⟨q + 1, by omega, by go_num, HZ.out⟩
              case measure => simp [intOf]; omega
          · obtain ⟨w6, hcl, hI6, hT6, _⟩ := run_clr66 wr 0 (.slice ao m k) m HB.out.2.2.1
            have H6 : Hid (ES B w6 c s (r'.set i x) (M + i * K + q) K rb tb g cap eb i ∧ Tame B true w w6 (fun k => c.own k ∨ k = tb) ∧ IR B 76 2 w6 (.slice ao m k) m) := ⟨HB.out.1.quiet hT6, HB.out.2.1.trans ((hT6.up true).mono fun _ _ q => q.elim), hI6⟩
            clear hI6 hT6 HB
            go_upto_region 18 with fail
            clear hcl
            have d5 : w6.cell? ⟨c.sb, 5, none⟩ = some (.slice (some ⟨g, 0, none⟩) n cap) := by rw [HNn.out]; exact H6.out.1.c5
            obtain ⟨_, _, _, dj, _⟩ := H6.out.1.at HL.out
            have fg : ∀ k, w6.frozen? ⟨g, k, none⟩ = false := by { obtain ⟨cur, hB, _⟩ := H6.out.1.em; exact hB.frozen }
            have HF : Hid (∀ (ao' : Option Addr) (k' : Nat), IR B 76 2 w6 (.slice ao' 0 k') 0 → ES B ((w6.setCell ⟨g, i, none⟩ (.slice ao' 0 k')).drew) c s (r'.set i x) (M + (i + 1) * K) K rb tb g cap eb (i + 1) ∧ Tame B true w ((w6.setCell ⟨g, i, none⟩ (.slice ao' 0 k')).drew) (fun k => c.own k ∨ k = tb) ∧ RR c.limit r (r'.set i x) (i + 1)) := by
              intro ao' k' hI
              have h1 := H6.out.1.put HL.out ao' k' hI
              have h2 := h1.1.quiet (Tame.refl _ _ _).drew
              refine ⟨⟨h2.st.mono (by rw [Nat.add_mul]; omega) (Nat.le_refl _), h2.rp, h2.c5, h2.em, h2.e0⟩, (H6.out.2.1.trans (h1.2.mono fun _ _ q => .inl q)).drew, ?_⟩
              exact RR.step HRR.out (by rw [← HD.out.2.1]; have h3 := HRm.out; have h4 := HD.out.1; have h5 := HX.out; have h6 := HD.out.2.2.2.1; omega)
            rcases H6.out.2.2 with ⟨e, h0⟩ | ⟨gx, cx, e, hmc, hcm, hib⟩
            · cases e
              clear h0
              clear H6
              go_region
              go_wp2_with fail
              go_roundw
              case rel => exact ⟨i + 1, _, by omega, by go_num, HF.out _ _ (.inl ⟨rfl, rfl⟩)⟩
              case measure => simp [intOf]; omega
            · cases e
              have HI0 : Hid (IR B 76 2 w6 (.slice (some ⟨gx, 0, none⟩) 0 k) 0) := .inr ⟨gx, k, rfl, Nat.zero_le _, hcm, hib⟩
              clear H6 hib
              go_region
              go_wp2_with fail
              go_roundw
              case rel => exact ⟨i + 1, _, by omega, by go_num, HF.out _ _ HI0.out⟩
              case measure => simp [intOf]; omega
      · rcases HI1.out with ⟨e, h0⟩ | ⟨gx, cx, e, hmc, hcm, hib⟩
        · omega
        cases e
        have HGx : Hid (B ≤ gx) := hcm.2
        obtain ⟨V0, hV⟩ : ∃ V, V = W1.drew := ⟨_, rfl⟩
        have HV0 : Hid (ES B V0 c s r' (M + i * K) K rb tb g cap eb i) := by rw [hV]; exact HA1.out.quiet (Tame.refl _ _ _).drew
        have HTV0 : Hid (Tame B true w V0 (fun k => c.own k ∨ k = tb)) := by rw [hV]; exact HT1.out.drew
        have HSH : Hid (SH V0 rb tb xb gx m k) := ⟨HV0.out.rp, by rw [hV]; exact HBx.out, by rw [hV]; exact hib⟩
        have i8 : (R : Int) < (m : Int) := by omega
        have i9 : (R : Int) ≤ (k : Int) := by omega
        have hRm : R ≤ m := by omega
        have HIm0 : Hid (IR B 76 2 V0 (.slice (some ⟨gx, 0, none⟩) m k) m) := .inr ⟨gx, k, rfl, hmc, hcm, by rw [hV]; exact hib⟩
        have qx : V0.cell? ⟨xb, 0, none⟩ = some (.slice (some ⟨gx, 0, none⟩) m k) := by rw [hV]; exact HBx.out.cell 0
        rw [← hV]
        clear hV HA1 HT1 HI1 HBx hib
        go_upto_region 11 with (first | (go_at_call 26; refine (shuffle_any V0 rb tb xb gx m k HSH.out hmc (by omega)).mono ?_; rintro e w2 ⟨rfl, h2, h3⟩; have HS2 := Hid.mk'' h2; have HK2 := Hid.mk'' h3; have qx2 : w2.cell? ⟨xb, 0, none⟩ = some (.slice (some ⟨gx, 0, none⟩) m k) := h2.bx.cell 0; have qf2 := h2.bx.frozen; clear h2 h3) | fail)
        obtain ⟨V, hV⟩ : ∃ V, V = w2.setCell ⟨xb, 0, none⟩ (.slice (some ⟨gx, 0, none⟩) R k) := ⟨_, rfl⟩
        obtain ⟨t, ht⟩ : ∃ t, t = R := ⟨_, rfl⟩
        have hsf := HV0.out.shuf HSH.out HGx.out HS2.out HK2.out
        have hbx := hsf.1.box HS2.out.bx Hxg.out.2 Hxg.out.1 (.slice (some ⟨gx, 0, none⟩) R k)
        have htm : t ≤ m := by omega
        have HRm : Hid ((t : Int) ≤ 0 ∨ (t : Int) ≤ D) := by
          rcases HRm0.out with h | h
          · exact .inl (by omega)
          · exact .inr (by omega)
        have HV : Hid (ES B V c s r' (M + i * K) K rb tb g cap eb i) := by rw [hV]; exact hbx.1
        have HTV : Hid (Tame B true w V (fun k => c.own k ∨ k = tb)) := by rw [hV]; exact (HTV0.out.trans ((hsf.2.up true).mono fun _ _ q => .inr q)).trans hbx.2
        have hib2 : IB 76 (k * 2) V.heap[gx]? := by
          rw [hV]
          have hk : Kept w2 (w2.setCell ⟨xb, 0, none⟩ (.slice (some ⟨gx, 0, none⟩) R k)) (fun j => j = xb) := Kept.one _ _ _ _
          obtain ⟨cur, hg, h1, h2⟩ := HS2.out.ib
          exact ⟨cur, Blk.kept (show Blk w2 gx 76 cur from hg) hk (fun e => HS2.out.bx.notT (T' := 76) (by decide) _ (by rw [← e]; exact hg)), h1, h2⟩
        have HIm : Hid (IR B 76 2 V (.slice (some ⟨gx, 0, none⟩) m k) m) := .inr ⟨gx, k, rfl, hmc, hcm, hib2⟩
        have HIt : Hid (IR B 76 2 V (.slice (some ⟨gx, 0, none⟩) t k) t) := .inr ⟨gx, k, rfl, by omega, hcm, hib2⟩
        have HBx : Hid (Blk V xb 66 #[.slice (some ⟨gx, 0, none⟩) t k]) := by rw [hV, ht]; exact HS2.out.bx.set 0 _
        rw [← hV]
        clear hsf hbx hib2 hV HV0 HTV0 HSH HS2 HK2 HIm0 qx2 qf2 qx ht
        obtain ⟨ao, hao⟩ : ∃ ao, ao = some (⟨gx, 0, none⟩ : Addr) := ⟨_, rfl⟩
        rw [← hao] at HIm HIt HBx ⊢
        clear hao hmc i9 i8 hRm
        obtain ⟨x, hx⟩ : ∃ x, x = z + (t : Int) := ⟨_, rfl⟩
        have ex : IntKind.i64.wrap (z + (t : Int)) = x := by { rw [hx, IntKind.wrap_i64]; have h1 := HD.out.2.2.2.2.1; have h2 := HD.out.2.2.2.2.2; have h3 := HD.out.1; have h4 := Hl.out; have h5 := HD.out.2.1; unfold InR at h1 h2 h4; have h6 := HRm.out; omega }
        obtain ⟨gr, q4, qz, fr, hBr, hE3, hT3⟩ := HV.out.gr HL.out x
        obtain ⟨ys, hBr⟩ := hBr
        have hxr : ¬ xb = gr := by { intro e; exact hBr.notT (T' := 66) (by decide) _ (by rw [← e]; exact HBx.out) }
        have hxr' : ¬ gr = xb := fun e => hxr e.symm
        have H3 : Hid (ES B ((V.setCell ⟨gr, i, none⟩ (.int .i64 x)).drew) c s (r'.set i x) (M + i * K) K rb tb g cap eb i ∧ Tame B true w ((V.setCell ⟨gr, i, none⟩ (.int .i64 x)).drew) (fun k => c.own k ∨ k = tb)) := ⟨hE3.quiet (Tame.refl _ _ _).drew, (HTV.out.trans (hT3.mono fun _ _ q => .inl q)).drew⟩
        have hkr : Tame B false V ((V.setCell ⟨gr, i, none⟩ (.int .i64 x)).drew) (fun k => k = gr) := (Tame.ofKept (Kept.one _ _ _ _)).drew
        have HIm3 : Hid (IR B 76 2 ((V.setCell ⟨gr, i, none⟩ (.int .i64 x)).drew) (.slice ao m k) m) := HIm.out.tame (.inl rfl) hkr (fun j q => by subst q; exact hBr.notT (by decide))
        have HIt3 : Hid (IR B 76 2 ((V.setCell ⟨gr, i, none⟩ (.int .i64 x)).drew) (.slice ao t k) t) := HIt.out.tame (.inl rfl) hkr (fun j q => by subst q; exact hBr.notT (by decide))
        rw [← HNn.out] at q4
        rw [← HD.out.2.2.1] at qz
        have qx : V.cell? ⟨xb, 0, none⟩ = some (.slice ao t k) := HBx.out.cell 0
        have HX : Hid (x = z + (t : Int)) := hx
        clear hx hE3 hT3 hkr hBr HIm HIt HV HTV
        go_region
        obtain ⟨W3, hW3⟩ : ∃ W3, W3 = (V.setCell ⟨gr, i, none⟩ (.int .i64 x)).drew := ⟨_, rfl⟩
        have qx3 : W3.cell? ⟨xb, 0, none⟩ = some (.slice ao t k) := by { rw [hW3]; exact (World.cell?_setCell_far _ _ _ _ (fun e => hxr e.symm)).trans qx }
        rw [← hW3] at H3 HIm3 HIt3 ⊢
        clear hW3 qx q4 qz fr HBx hxr hxr'
        go_wp2_with fail
        go_loopw [76] (fun a w4 => ∃ (q : Nat), q ≤ t ∧ a = .int .i64 q ∧ Hid (ES B w4 c s (r'.set i x) (M + i * K + q) K rb tb g cap eb i ∧ Tame B true w w4 (fun k => c.own k ∨ k = tb) ∧ IR B 76 2 w4 (.slice ao m k) m ∧ IR B 76 2 w4 (.slice ao t k) t)) (fun a _ => t - (intOf a).toNat)
        case atStart => exact ⟨0, Nat.zero_le _, rfl, H3.out.1, H3.out.2, HIm3.out, HIt3.out⟩
        case round =>
          obtain ⟨q, hq, rfl, HB⟩ := hrel
          by_cases hqt : q < t
          · obtain ⟨gx, cx, e1, _, _, _, hcells⟩ := HB.out.2.2.2.cells (by omega)
            cases e1
            obtain ⟨p0, y0⟩ := hcells (q * 2) (by omega)
            obtain ⟨p1, y1⟩ := hcells (q * 2 + 1) (by omega)
            have j1 : (q : Int) < (t : Int) := by omega
            have HMq : Hid (M + i * K + q ≤ 900000) := by { have h1 : i * K ≤ 64 * 256 := Nat.mul_le_mul (by omega) hK; show M + i * K + q ≤ 900000; omega }
            clear hcells
            go_upto_region 15 with fail
            obtain ⟨W5, hW5⟩ : ∃ W5, W5 = wr.alloc (.cells #[.int .i64 p0, .int .i64 p1] 76) := ⟨_, rfl⟩
            obtain ⟨ub, hub⟩ : ∃ ub, ub = wr.heap.size := ⟨_, rfl⟩
            have hta : Tame B false wr W5 (fun _ => False) := by { rw [hW5]; exact (Tame.refl _ _ _).alloc _ }
            have HB5 : Hid (ES B W5 c s (r'.set i x) (M + i * K + q) K rb tb g cap eb i ∧ Tame B true w W5 (fun k => c.own k ∨ k = tb) ∧ IR B 76 2 W5 (.slice (some ⟨gx, 0, none⟩) m k) m ∧ IR B 76 2 W5 (.slice (some ⟨gx, 0, none⟩) t k) t) := ⟨HB.out.1.quiet hta, HB.out.2.1.trans ((hta.up true).mono fun _ _ q => q.elim), HB.out.2.2.1.tame (.inl rfl) hta (fun _ q => q.elim), HB.out.2.2.2.tame (.inl rfl) hta (fun _ q => q.elim)⟩
            have hBu : Blk W5 ub 76 #[.int .i64 p0, .int .i64 p1] := by { rw [hW5, hub]; exact Blk.new wr 76 _ }
            have b0 : W5.cell? ⟨ub, 0, none⟩ = some (.int .i64 p0) := hBu.cell 0
            have b1 : W5.cell? ⟨ub, 1, none⟩ = some (.int .i64 p1) := hBu.cell 1
            obtain ⟨cb, ecb, _, yi⟩ := HB5.out.1.st.nv.at HL.out
            obtain ⟨y, hy⟩ : ∃ y, y = c.ids.getD i 0 := ⟨_, rfl⟩
            have hf1 := HB5.out.1.st.c1
            rw [← hy] at yi
            have HY : Hid (c.ids.getD i 0 = y) := hy.symm
            rw [← hW5, ← hub]
            have eca := Hca.out.trans ecb
            subst eca
            clear hW5 hub hta hBu HB y0 y1 hy
            refine wp_region_held_drew (S := fun W => W.cell? ⟨c.sb, 1, none⟩ = some (.func (.func 12) #[] #[.pointer (some ⟨c.lb, 0, none⟩)]) ∧ W.cell? ⟨cb, i, none⟩ = some (.int .i64 y)) (by kernel_rfl) (by exact ⟨hf1, yi⟩) (fun hHeld => ?_)
            refine wpAnyH_take (i := 0) (oi := { dst := some 80, op := Op.move (Operand.tmp 0), type := 44, pos := _, after := #[], guard := none }) (v := .pointer (some ⟨c.sb, 0, none⟩)) rfl (by kernel_rfl) (by kernel_rfl) (by kernel_rfl) (fun _ _ _ h => h) (Or.inl ⟨by rfl, fun W hSW => by go_simp⟩) (by assumption) ?_
            try simp only [Act.put, List.setIfInBounds_toArray, List.set_cons_zero, List.set_cons_succ]
            refine wpAnyH_take (i := 1) (oi := { dst := some 81, op := Op.nilCheck (Operand.tmp 80), type := 0, pos := _, after := #[{ on := 0, ground := Ground.data }], guard := none }) (v := .pointer (some ⟨c.sb, 0, none⟩)) rfl (by kernel_rfl) (by kernel_rfl) (by kernel_rfl) (fun _ _ _ h => h) (Or.inl ⟨by rfl, fun W hSW => by go_simp⟩) (by assumption) ?_
            try simp only [Act.put, List.setIfInBounds_toArray, List.set_cons_zero, List.set_cons_succ]
            refine wpAnyH_take (i := 2) (oi := { dst := some 82, op := Op.fieldAddr 70 (Operand.tmp 81) 1, type := 0, pos := _, after := #[{ on := 1, ground := Ground.data }], guard := none }) (v := .pointer (some ⟨c.sb, 1, none⟩)) rfl (by kernel_rfl) (by kernel_rfl) (by kernel_rfl) (fun _ _ _ h => h) (Or.inl ⟨by rfl, fun W hSW => by go_simp⟩) (by assumption) ?_
            try simp only [Act.put, List.setIfInBounds_toArray, List.set_cons_zero, List.set_cons_succ]
            refine wpAnyH_take (i := 3) (oi := { dst := some 83, op := Op.load 48 (Operand.tmp 82), type := 48, pos := _, after := #[{ on := 2, ground := Ground.data }], guard := none }) (v := .func (.func 12) #[] #[.pointer (some ⟨c.lb, 0, none⟩)]) rfl (by kernel_rfl) (by kernel_rfl) (by kernel_rfl) (fun _ _ _ h => h) (Or.inl ⟨by rfl, fun W hSW => by have hc2 : W.cell? ⟨c.sb, 1, none⟩ = some (.func (.func 12) #[] #[.pointer (some ⟨c.lb, 0, none⟩)]) := hSW.1; go_simp⟩) (by assumption) ?_
            try simp only [Act.put, List.setIfInBounds_toArray, List.set_cons_zero, List.set_cons_succ]
            refine wpAnyH_take (i := 4) (oi := { dst := some 84, op := Op.fieldAddr 76 (Operand.tmp 11) 0, type := 0, pos := _, after := #[], guard := none }) (v := .pointer (some ⟨ub, 0, none⟩)) rfl (by kernel_rfl) (by kernel_rfl) (by kernel_rfl) (fun _ _ _ h => h) (Or.inl ⟨by rfl, fun W hSW => by go_simp⟩) (by assumption) ?_
            try simp only [Act.put, List.setIfInBounds_toArray, List.set_cons_zero, List.set_cons_succ]
            refine wpAnyH_take (i := 6) (oi := { dst := some 86, op := Op.move (Operand.tmp 5), type := 22, pos := _, after := #[], guard := none }) (v := .slice (some ⟨cb, 0, none⟩) n c.ccap) rfl (by kernel_rfl) (by kernel_rfl) (by kernel_rfl) (fun _ _ _ h => h) (Or.inl ⟨by rfl, fun W hSW => by go_simp⟩) (by assumption) ?_
            try simp only [Act.put, List.setIfInBounds_toArray, List.set_cons_zero, List.set_cons_succ]
            refine wpAnyH_take (i := 7) (oi := { dst := some 87, op := Op.move (Operand.tmp 6), type := 3, pos := _, after := #[], guard := none }) (v := .int .i64 (i : Int)) rfl (by kernel_rfl) (by kernel_rfl) (by kernel_rfl) (fun _ _ _ h => h) (Or.inl ⟨by rfl, fun W hSW => by go_simp⟩) (by assumption) ?_
            try simp only [Act.put, List.setIfInBounds_toArray, List.set_cons_zero, List.set_cons_succ]
            refine wpAnyH_take (i := 8) (oi := { dst := some 88, op := Op.indexAddr 22 (Operand.tmp 86) (Operand.tmp 87), type := 0, pos := _, after := #[{ on := 6, ground := Ground.data }, { on := 7, ground := Ground.data }], guard := none }) (v := .pointer (some ⟨cb, i, none⟩)) rfl (by kernel_rfl) (by kernel_rfl) (by kernel_rfl) (fun _ _ _ h => h) (Or.inl ⟨by rfl, fun W hSW => by go_simp⟩) (by assumption) ?_
            try simp only [Act.put, List.setIfInBounds_toArray, List.set_cons_zero, List.set_cons_succ]
            refine wpAnyH_take (i := 9) (oi := { dst := some 89, op := Op.load 2 (Operand.tmp 88), type := 2, pos := _, after := #[{ on := 8, ground := Ground.data }], guard := none }) (v := .int .i64 y) rfl (by kernel_rfl) (by kernel_rfl) (by kernel_rfl) (fun _ _ _ h => h) (Or.inl ⟨by rfl, fun W hSW => by have hc2 : W.cell? ⟨cb, i, none⟩ = some (.int .i64 y) := hSW.2; go_simp⟩) (by assumption) ?_
            try simp only [Act.put, List.setIfInBounds_toArray, List.set_cons_zero, List.set_cons_succ]
            refine wpAnyH_take (i := 10) (oi := { dst := some 90, op := Op.fieldAddr 76 (Operand.tmp 11) 1, type := 0, pos := _, after := #[], guard := none }) (v := .pointer (some ⟨ub, 1, none⟩)) rfl (by kernel_rfl) (by kernel_rfl) (by kernel_rfl) (fun _ _ _ h => h) (Or.inl ⟨by rfl, fun W hSW => by go_simp⟩) (by assumption) ?_
            try simp only [Act.put, List.setIfInBounds_toArray, List.set_cons_zero, List.set_cons_succ]
            refine wpAnyH_ready (rs := [5, 11]) (by kernel_rfl) (by simp) ?_
            refine (AllReadyH.cons (o := { dst := some 85, op := Op.load 2 (Operand.tmp 84), type := 2, pos := _, after := #[{ on := 4, ground := Ground.data }], guard := none }) rfl (fun K hK => ?_) (AllReadyH.cons (o := { dst := some 91, op := Op.load 3 (Operand.tmp 90), type := 3, pos := _, after := #[{ on := 10, ground := Ground.data }], guard := none }) rfl (fun K hK => ?_) AllReadyH.nil))
            · go_simp
              refine hK.out _ _ (by exact hHeld) (fun hHeld => ?_)
              clear hK K
              try simp only [Act.put, List.setIfInBounds_toArray, List.set_cons_zero, List.set_cons_succ]
              refine wpAnyH_ready (rs := [11]) (by kernel_rfl) (by simp) ?_
              refine (AllReadyH.cons (o := { dst := some 91, op := Op.load 3 (Operand.tmp 90), type := 3, pos := _, after := #[{ on := 10, ground := Ground.data }], guard := none }) rfl (fun K hK => ?_) AllReadyH.nil)
              go_simp
              refine hK.out _ _ (by exact hHeld) (fun hHeld => ?_)
              clear hK K
              try simp only [Act.put, List.setIfInBounds_toArray, List.set_cons_zero, List.set_cons_succ]
              refine wpAnyH_ready (rs := [12]) (by kernel_rfl) (by simp) ?_
              refine (AllReadyH.cons (o := { dst := some 92, op := Op.call { callee := Callee.value (Operand.tmp 83), args := #[Operand.tmp 85, Operand.tmp 89, Operand.tmp 91], argTypes := #[2, 2, 3] }, type := 0, pos := _, after := #[{ on := 3, ground := Ground.data }, { on := 5, ground := Ground.data }, { on := 9, ground := Ground.data }, { on := 11, ground := Ground.data }], guard := none }) rfl (fun K hK => ?_) AllReadyH.nil)
              go_simp
              go_at_call 12
              refine ((HB5.out.1.quiet (Tame.refl _ _ _).drew).take HMq.out p0 y p1).mono ?_
              rintro e w6 ⟨rfl, h6, h7⟩
              have H6 := Hid.mk'' h6
              have H7 := Hid.mk'' h7
              clear h6 h7
              go_wp2_with fail
              have hs6 : w6.cell? ⟨c.sb, 1, none⟩ = some (.func (.func 12) #[] #[.pointer (some ⟨c.lb, 0, none⟩)]) ∧ w6.cell? ⟨cb, i, none⟩ = some (.int .i64 y) := ⟨H6.out.st.c1, by { obtain ⟨cb2, e2, _, y2⟩ := H6.out.st.nv.at HL.out; rw [ecb] at e2; cases e2; rw [y2, HY.out] }⟩
              refine hK.out _ _ hs6 (fun hHeld => ?_)
              clear hK K
              try simp only [Act.put, List.setIfInBounds_toArray, List.set_cons_zero, List.set_cons_succ]
              refine wpAnyH_done (by kernel_rfl) ?_ _
              obtain ⟨lv, hlb, _⟩ : ∃ lv, Blk W5 c.lb 43 #[lv] ∧ True := by { obtain ⟨_, _, v, hB, _⟩ := HB5.out.1.st.lg; exact ⟨v, hB, trivial⟩ }
              have hta : Tame B false W5 w6 (fun k => k = c.lb) := (Tame.refl false W5 (fun k => k = c.lb)).drew.trans H7.out
              have HZ : Hid (ES B w6 c s (r'.set i x) (M + i * K + (q + 1)) K rb tb g cap eb i ∧ Tame B true w w6 (fun k => c.own k ∨ k = tb) ∧ IR B 76 2 w6 (.slice (some ⟨gx, 0, none⟩) m k) m ∧ IR B 76 2 w6 (.slice (some ⟨gx, 0, none⟩) t k) t) := ⟨H6.out, HB5.out.2.1.trans ((hta.up true).mono fun _ _ q => .inl (.inr (.inl q))), HB5.out.2.2.1.tame (.inl rfl) hta (fun j q => by subst q; exact hlb.notT (by decide)), HB5.out.2.2.2.tame (.inl rfl) hta (fun j q => by subst q; exact hlb.notT (by decide))⟩
              clear hta hlb H6 H7 HB5 hs6 hHeld b0 b1 yi hf1
              go_wp2_with fail
              go_roundw
              case rel => exact ⟨q + 1, by omega, by go_num, HZ.out⟩
              case measure => simp [intOf]; omega
            · go_simp
              refine hK.out _ _ (by exact hHeld) (fun hHeld => ?_)
              clear hK K
              try simp only [Act.put, List.setIfInBounds_toArray, List.set_cons_zero, List.set_cons_succ]
              refine wpAnyH_ready (rs := [5]) (by kernel_rfl) (by simp) ?_
              refine (AllReadyH.cons (o := { dst := some 85, op := Op.load 2 (Operand.tmp 84), type := 2, pos := _, after := #[{ on := 4, ground := Ground.data }], guard := none }) rfl (fun K hK => ?_) AllReadyH.nil)
              go_simp
              refine hK.out _ _ (by exact hHeld) (fun hHeld => ?_)
              clear hK K
              try simp only [Act.put, List.setIfInBounds_toArray, List.set_cons_zero, List.set_cons_succ]
              refine wpAnyH_ready (rs := [12]) (by kernel_rfl) (by simp) ?_
              refine (AllReadyH.cons (o := { dst := some 92, op := Op.call { callee := Callee.value (Operand.tmp 83), args := #[Operand.tmp 85, Operand.tmp 89, Operand.tmp 91], argTypes := #[2, 2, 3] }, type := 0, pos := _, after := #[{ on := 3, ground := Ground.data }, { on := 5, ground := Ground.data }, { on := 9, ground := Ground.data }, { on := 11, ground := Ground.data }], guard := none }) rfl (fun K hK => ?_) AllReadyH.nil)
              go_simp
              go_at_call 12
              refine ((HB5.out.1.quiet (Tame.refl _ _ _).drew).take HMq.out p0 y p1).mono ?_
              rintro e w6 ⟨rfl, h6, h7⟩
              have H6 := Hid.mk'' h6
              have H7 := Hid.mk'' h7
              clear h6 h7
              go_wp2_with fail
              have hs6 : w6.cell? ⟨c.sb, 1, none⟩ = some (.func (.func 12) #[] #[.pointer (some ⟨c.lb, 0, none⟩)]) ∧ w6.cell? ⟨cb, i, none⟩ = some (.int .i64 y) := ⟨H6.out.st.c1, by { obtain ⟨cb2, e2, _, y2⟩ := H6.out.st.nv.at HL.out; rw [ecb] at e2; cases e2; rw [y2, HY.out] }⟩
              refine hK.out _ _ hs6 (fun hHeld => ?_)
              clear hK K
              try simp only [Act.put, List.setIfInBounds_toArray, List.set_cons_zero, List.set_cons_succ]
              refine wpAnyH_done (by kernel_rfl) ?_ _
              obtain ⟨lv, hlb, _⟩ : ∃ lv, Blk W5 c.lb 43 #[lv] ∧ True := by { obtain ⟨_, _, v, hB, _⟩ := HB5.out.1.st.lg; exact ⟨v, hB, trivial⟩ }
              have hta : Tame B false W5 w6 (fun k => k = c.lb) := (Tame.refl false W5 (fun k => k = c.lb)).drew.trans H7.out
              have HZ : Hid (ES B w6 c s (r'.set i x) (M + i * K + (q + 1)) K rb tb g cap eb i ∧ Tame B true w w6 (fun k => c.own k ∨ k = tb) ∧ IR B 76 2 w6 (.slice (some ⟨gx, 0, none⟩) m k) m ∧ IR B 76 2 w6 (.slice (some ⟨gx, 0, none⟩) t k) t) := ⟨H6.out, HB5.out.2.1.trans ((hta.up true).mono fun _ _ q => .inl (.inr (.inl q))), HB5.out.2.2.1.tame (.inl rfl) hta (fun j q => by subst q; exact hlb.notT (by decide)), HB5.out.2.2.2.tame (.inl rfl) hta (fun j q => by subst q; exact hlb.notT (by decide))⟩
              clear hta hlb H6 H7 HB5 hs6 hHeld b0 b1 yi hf1
              go_wp2_with fail
              go_roundw
              case rel => exact ⟨q + 1, by omega, by go_num, HZ.out⟩
              case measure => simp [intOf]; omega
          · obtain ⟨w6, hcl, hI6, hT6, _⟩ := run_clr66 wr 0 (.slice ao m k) m HB.out.2.2.1
            have H6 : Hid (ES B w6 c s (r'.set i x) (M + i * K + q) K rb tb g cap eb i ∧ Tame B true w w6 (fun k => c.own k ∨ k = tb) ∧ IR B 76 2 w6 (.slice ao m k) m) := ⟨HB.out.1.quiet hT6, HB.out.2.1.trans ((hT6.up true).mono fun _ _ q => q.elim), hI6⟩
            clear hI6 hT6 HB
            go_upto_region 18 with fail
            clear hcl
            have d5 : w6.cell? ⟨c.sb, 5, none⟩ = some (.slice (some ⟨g, 0, none⟩) n cap) := by rw [HNn.out]; exact H6.out.1.c5
            obtain ⟨_, _, _, dj, _⟩ := H6.out.1.at HL.out
            have fg : ∀ k, w6.frozen? ⟨g, k, none⟩ = false := by { obtain ⟨cur, hB, _⟩ := H6.out.1.em; exact hB.frozen }
            have HF : Hid (∀ (ao' : Option Addr) (k' : Nat), IR B 76 2 w6 (.slice ao' 0 k') 0 → ES B ((w6.setCell ⟨g, i, none⟩ (.slice ao' 0 k')).drew) c s (r'.set i x) (M + (i + 1) * K) K rb tb g cap eb (i + 1) ∧ Tame B true w ((w6.setCell ⟨g, i, none⟩ (.slice ao' 0 k')).drew) (fun k => c.own k ∨ k = tb) ∧ RR c.limit r (r'.set i x) (i + 1)) := by
              intro ao' k' hI
              have h1 := H6.out.1.put HL.out ao' k' hI
              have h2 := h1.1.quiet (Tame.refl _ _ _).drew
              refine ⟨⟨h2.st.mono (by rw [Nat.add_mul]; omega) (Nat.le_refl _), h2.rp, h2.c5, h2.em, h2.e0⟩, (H6.out.2.1.trans (h1.2.mono fun _ _ q => .inl q)).drew, ?_⟩
              exact RR.step HRR.out (by rw [← HD.out.2.1]; have h3 := HRm.out; have h4 := HD.out.1; have h5 := HX.out; have h6 := HD.out.2.2.2.1; omega)
            rcases H6.out.2.2 with ⟨e, h0⟩ | ⟨gx, cx, e, hmc, hcm, hib⟩
            · cases e
              clear h0
              clear H6
              go_region
              go_wp2_with fail
              go_roundw
              case rel => exact ⟨i + 1, _, by omega, by go_num, HF.out _ _ (.inl ⟨rfl, rfl⟩)⟩
              case measure => simp [intOf]; omega
            · cases e
              have HI0 : Hid (IR B 76 2 w6 (.slice (some ⟨gx, 0, none⟩) 0 k) 0) := .inr ⟨gx, k, rfl, Nat.zero_le _, hcm, hib⟩
              clear H6 hib
              go_region
              go_wp2_with fail
              go_roundw
              case rel => exact ⟨i + 1, _, by omega, by go_num, HF.out _ _ HI0.out⟩
              case measure => simp [intOf]; omega
    · have i1 : ¬ (i : Int) < (n : Int) := by omega
      obtain rfl : n = i := by omega
      have HF0 : Hid (ST B wr c s r' (M + n * K) 0 ∧ Tame B true w wr (fun k => c.own k ∨ k = tb) ∧ Blk wr eb 28 #[.int .i64 0, .int .i64 0] ∧ RR c.limit r r' n) := by
        have h1 := HA.out.1
        have h2 : ES B wr c s r' (M + n * K) K rb tb g cap eb c.ids.length := by { have h3 := HNn.out; rw [← h3]; exact h1 }
        exact ⟨h2.done, HA.out.2.1, h1.e0, HA.out.2.2⟩
      clear HA
      go_upto_region 21 with fail
      obtain ⟨W7, hW7⟩ : ∃ W7, W7 = wr.alloc (.cells #[.int .i64 0, .int .i64 0] 28) := ⟨_, rfl⟩
      obtain ⟨kb, hkb⟩ : ∃ kb, kb = wr.heap.size := ⟨_, rfl⟩
      have HZ : Hid (EZ B w W7 c s r' (M + n * K) eb kb 0 tb) := by
        rw [hW7]
        refine ⟨HF0.out.1.alloc _, HF0.out.2.1.alloc _, ?_, ⟨?_, ?_⟩, HF0.out.2.2.1.alloc _, Blk.new' hkb.symm 28 _⟩
        · have h1 := HF0.out.2.2.1.lt
          omega
        · have h1 := HF0.out.2.1.size
          omega
        · have h1 := Heb.out
          omega
      rw [← hW7, ← hkb]
      have HRf : Hid (RR c.limit r r' n) := HF0.out.2.2.2
      clear hW7 hkb HF0
      obtain ⟨wvx, hsbx, _⟩ := HZ.out.st.sb
      have c3 : W7.cell? ⟨c.sb, 3, none⟩ = some (.slice c.so n c.sc) := by { rw [HNn.out]; exact Blk.cell hsbx 3 }
      clear hsbx
      go_wp2_with fail
      go_loopw [109] (fun a w8 => ∃ (i : Nat), i ≤ n ∧ a = .int .i64 i ∧ Hid (EZ B w w8 c s r' (M + n * K) eb kb i tb)) (fun a _ => n - (intOf a).toNat)
      case atStart => exact ⟨0, Nat.zero_le _, rfl, HZ.out⟩
      case round =>
        clear HZ c3
        obtain ⟨i, hi, rfl, HY⟩ := hrel
        by_cases hlt : i < n
        · have HL : Hid (i < c.ids.length) := by rw [← HNn.out]; exact hlt
          have i1 : (i : Int) < (n : Int) := by omega
          obtain ⟨gs, _, _, ys, c3, fs⟩ := HY.out.st.s3 HL.out
          obtain ⟨v1, hv1⟩ : ∃ v1, v1 = s.getD i 0 := ⟨_, rfl⟩
          obtain ⟨a1, ha1⟩ : ∃ a1, a1 = mxs s i := ⟨_, rfl⟩
          obtain ⟨a2, ha2⟩ : ∃ a2, a2 = mxs r' i := ⟨_, rfl⟩
          obtain ⟨v2, hv2⟩ : ∃ v2, v2 = r'.getD i 0 := ⟨_, rfl⟩
          obtain ⟨y1, hy1⟩ : ∃ y1, (if a1 < v1 then v1 else a1) = y1 := ⟨_, rfl⟩
          obtain ⟨y2, hy2⟩ : ∃ y2, (if a2 < v2 then v2 else a2) = y2 := ⟨_, rfl⟩
          have k0 : wr.cell? ⟨kb, 0, none⟩ = some (.int .i64 a1) := by rw [ha1]; exact HY.out.kb.cell 0
          have k1 : wr.cell? ⟨kb, 1, none⟩ = some (.int .i64 a2) := by rw [ha2]; exact HY.out.kb.cell 1
          have kf := HY.out.kb.frozen
          have hf := HY.out.fst y1 y2
          have HS1 : Hid (ST B ((wr.setCell ⟨kb, 0, none⟩ (.int .i64 y1)).drew) c s r' (M + n * K) 0) := hf.1
          have HK1 : Hid (Blk ((wr.setCell ⟨kb, 0, none⟩ (.int .i64 y1)).drew) kb 28 #[.int .i64 y1, .int .i64 a2]) := by rw [ha2]; exact hf.2.1
          have HZ2 : Hid (EZ B w ((((wr.setCell ⟨kb, 0, none⟩ (.int .i64 y1)).drew).setCell ⟨kb, 1, none⟩ (.int .i64 y2)).drew) c s r' (M + n * K) eb kb (i + 1) tb) := by
            refine ⟨hf.2.2.1, hf.2.2.2.1, HY.out.ne, HY.out.new, hf.2.2.2.2.1, ?_⟩
            have e1 : mxs s (i + 1) = y1 := by rw [← hy1, ha1, hv1]; rfl
            have e2 : mxs r' (i + 1) = y2 := by rw [← hy2, ha2, hv2]; rfl
            rw [e1, e2]
            exact hf.2.2.2.2.2
          rw [← HNn.out] at c3
          rw [← hv1] at ys
          have HV2 := Hid.mk'' hv2
          have Hy1 := Hid.mk'' hy1
          have Hy2 := Hid.mk'' hy2
          clear hf hv1 ha1 ha2 hv2 hy1 hy2 HY
          go_upto_region 24 with fail
          go_region
          rw [Hy1.out]
          obtain ⟨W8, hW8⟩ : ∃ W8, W8 = (wr.setCell ⟨kb, 0, none⟩ (.int .i64 y1)).drew := ⟨_, rfl⟩
          rw [← hW8] at HS1 HK1 HZ2 ⊢
          clear hW8 k0 k1 kf c3 ys fs
          obtain ⟨gr, _, _, ys, c4, fs⟩ := HS1.out.s4 HL.out
          rw [← HNn.out] at c4
          rw [← HV2.out] at ys
          have k1 : W8.cell? ⟨kb, 1, none⟩ = some (.int .i64 a2) := HK1.out.cell 1
          have kf := HK1.out.frozen
          go_upto_region 25 with fail
          go_region
          rw [Hy2.out]
          go_wp2_with fail
          go_roundw
          case rel => exact ⟨i + 1, by omega, by go_num, HZ2.out⟩
          case measure => simp [intOf]; omega
        · have i1 : ¬ (i : Int) < (n : Int) := by omega
          obtain rfl : n = i := by omega
          obtain ⟨a1, ha1⟩ : ∃ a1, a1 = mxs s n := ⟨_, rfl⟩
          obtain ⟨a2, ha2⟩ : ∃ a2, a2 = mxs r' n := ⟨_, rfl⟩
          have k0 : wr.cell? ⟨kb, 0, none⟩ = some (.int .i64 a1) := by rw [ha1]; exact HY.out.kb.cell 0
          have k1 : wr.cell? ⟨kb, 1, none⟩ = some (.int .i64 a2) := by rw [ha2]; exact HY.out.kb.cell 1
          have z0 : wr.cell? ⟨eb, 0, none⟩ = some (.int .i64 0) := HY.out.e0.cell 0
          have z1 : wr.cell? ⟨eb, 1, none⟩ = some (.int .i64 0) := HY.out.e0.cell 1
          have zf := HY.out.e0.frozen
          have HA1 := Hid.mk'' ha1
          have HA2 := Hid.mk'' ha2
          clear ha1 ha2
          go_wp2_with fail
          have kk : Kept wr ((wr.setCell ⟨eb, 0, none⟩ (.int .i64 a1)).setCell ⟨eb, 1, none⟩ (.int .i64 a2)) (fun k => k = eb) := (Kept.one _ _ _ _).set (.inl rfl) _
          have hBe : Blk ((wr.setCell ⟨eb, 0, none⟩ (.int .i64 a1)).setCell ⟨eb, 1, none⟩ (.int .i64 a2)) eb 28 #[.int .i64 a1, .int .i64 a2] := (HY.out.e0.set 0 _).set 1 _
          have x0 := hBe.cell 0
          have x1 := hBe.cell 1
          refine bodyPost_ret (v := .agg #[.int .i64 a1, .int .i64 a2]) ?_ rfl ?_
          · simp [results, Tryf.results20, go_sem, x0, x1]
          · refine ⟨r', by rw [HA1.out, HA2.out, HNn.out], ?_, HY.out.fr.next (Tame.ofKept kk) (fun j hj q => by subst q; exact absurd HY.out.new.2 (by omega)), by rw [← HNn.out]; exact HRf.out⟩
            exact (HY.out.st.side HY.out.e0 (by decide) (by decide) (by decide) (by decide) (by decide) (by decide) (by decide) (by decide) (Tame.ofKept kk)).mono (Nat.le_of_eq (by rw [HNn.out])) (Nat.le_refl _)
end Go.Proofs.Qxb6003861aFmt
