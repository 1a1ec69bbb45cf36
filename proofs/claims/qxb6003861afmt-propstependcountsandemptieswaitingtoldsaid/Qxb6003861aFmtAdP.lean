import Derived.Test.Qxb6003861aFmtAdO
import Derived.Test.Qxb6003861aFmtAdK
namespace Go.Proofs.Qxb6003861aFmt
open Go.RowKit
set_option linter.unusedVariables false
set_option linter.unusedSimpArgs false
variable {B : Nat}

/-- The first i lists are empty. -/
def Emp (w : World) (g i : Nat) : Prop := ∃ cur, Blk w g 66 cur ∧ ∀ k, k < i → ∃ ao cp, cur[k]? = some (.slice ao 0 cp)
theorem Emp.tame {w w' : World} {g i : Nat} {X : Nat → Prop} (h : Emp w g i) (k : Tame B false w w' X) (hX : ∀ j, X j → NotT w j 66) : Emp w' g i := by
  obtain ⟨cur, hB, h⟩ := h
  exact ⟨cur, hB.tame k (fun q => hX _ q _ hB) (hardF _ (by decide) (by decide)), h⟩
theorem Emp.put {w : World} {g i : Nat} (h : Emp w g i) (hi : ∃ v, w.cell? ⟨g, i, none⟩ = some v) (ao : Option Addr) (cp : Nat) : Emp (w.setCell ⟨g, i, none⟩ (.slice ao 0 cp)) g (i + 1) := by
  obtain ⟨cur, hB, h⟩ := h
  obtain ⟨v, hv⟩ := hi
  rw [hB.cell] at hv
  have hlt : i < cur.size := (Array.getElem?_eq_some_iff.1 hv).1
  refine ⟨_, hB.set i _, fun k hk => ?_⟩
  rw [Array.getElem?_setIfInBounds]
  by_cases e : i = k
  · subst e; exact ⟨ao, cp, by simp [hlt]⟩
  · obtain ⟨a, b, q⟩ := h k (by omega)
    exact ⟨a, b, by simp [e, q]⟩
/-- The end of a step, at work. -/
structure ES (B : Nat) (w : World) (c : SC) (s r : List Int) (M K rb tb g cap e0 i : Nat) : Prop where
  st : ST B w c s r M K
  rp : RP w rb tb
  c5 : w.cell? ⟨c.sb, 5, none⟩ = some (.slice (some ⟨g, 0, none⟩) c.ids.length cap)
  em : Emp w g i
  e0 : Blk w e0 28 #[.int .i64 0, .int .i64 0]
def Out (w : World) (j : Nat) : Prop := NotT w j 70 ∧ NotT w j 82 ∧ NotT w j 62 ∧ NotT w j 34 ∧ NotT w j 28
theorem Blk.out {w : World} {j : Nat} {T : TypeId} {xs : Array Value} (h : Blk w j T xs) (h1 : T ≠ 70) (h2 : T ≠ 82) (h3 : T ≠ 62) (h4 : T ≠ 34) (h5 : T ≠ 28) : Out w j := ⟨h.notT h1, h.notT h2, h.notT h3, h.notT h4, h.notT h5⟩
theorem RP.tame {S : Bool} {w w' : World} {rb tb : Nat} {X : Nat → Prop} (h : RP w rb tb) (k : Tame B S w w' X) (hX : ∀ j, X j → NotT w j 82 ∧ NotT w j 62 ∧ NotT w j 34) : RP w' rb tb := by
  obtain ⟨ao, c, l, i, h1, h2⟩ := h.2.2
  exact ⟨h.1.tame k (fun q => (hX _ q).1 _ h.1) ⟨by decide, by decide, fun _ => by decide⟩, h.2.1, h.2.2.tame k (fun j q => ⟨fun e => by subst e; exact (hX _ q).2.1 _ h1, (hX j q).2.2⟩)⟩
theorem ES.next {w w' : World} {c : SC} {s r s' r' : List Int} {M K M' K' rb tb g cap e0 i i' : Nat} {X : Nat → Prop} (h : ES B w c s r M K rb tb g cap e0 i) (k : Tame B false w w' X) (hX : ∀ j, X j → Out w j) (st' : ST B w' c s' r' M' K') (em' : Emp w' g i') : ES B w' c s' r' M' K' rb tb g cap e0 i' := by
  refine ⟨st', h.rp.tame k (fun j q => ⟨(hX j q).2.1, (hX j q).2.2.1, (hX j q).2.2.2.1⟩), ?_, em', h.e0.tame k (fun q => (hX _ q).2.2.2.2 _ h.e0) (hardF _ (by decide) (by decide))⟩
  obtain ⟨wv, h1, _⟩ := h.st.sb
  have h2 := Blk.tame h1 k (fun q => (hX _ q).1 _ h1) (hardF _ (by decide) (by decide))
  have e1 : w.cell? ⟨c.sb, 5, none⟩ = some wv := Blk.cell h1 5
  rw [h.c5] at e1
  cases e1
  exact Blk.cell h2 5
theorem ES.quiet {w w' : World} {c : SC} {s r : List Int} {M K rb tb g cap e0 i : Nat} (h : ES B w c s r M K rb tb g cap e0 i) (k : Tame B false w w' (fun _ => False)) : ES B w' c s r M K rb tb g cap e0 i :=
  h.next k (fun _ q => q.elim) (h.st.tame k (fun _ q => q.elim)) (h.em.tame k (fun _ q => q.elim))
theorem ES.gr {w : World} {c : SC} {s r : List Int} {M K rb tb g cap e0 i : Nat} (h : ES B w c s r M K rb tb g cap e0 i) (hi : i < c.ids.length) (z : Int) : ∃ gr, w.cell? ⟨c.sb, 4, none⟩ = some (.slice (some ⟨gr, 0, none⟩) c.ids.length c.rc) ∧ w.cell? ⟨gr, i, none⟩ = some (.int .i64 (r.getD i 0)) ∧ (∀ k, w.frozen? ⟨gr, k, none⟩ = false) ∧ (∃ xs, Blk w gr 3 xs) ∧
    ES B (w.setCell ⟨gr, i, none⟩ (.int .i64 z)) c s (r.set i z) M K rb tb g cap e0 i ∧ Tame B true w (w.setCell ⟨gr, i, none⟩ (.int .i64 z)) c.own := by
  obtain ⟨gr, er, hB, hc, c4, f⟩ := h.st.s4 hi
  have k : Tame B false w (w.setCell ⟨gr, i, none⟩ (.int .i64 z)) (fun k => k = gr) := Tame.ofKept (Kept.one _ _ _ _)
  have h2 := h.st.recv er hB i z
  exact ⟨gr, c4, hc, f, ⟨_, hB⟩, h.next k (fun j q => by subst q; exact hB.out (by decide) (by decide) (by decide) (by decide) (by decide)) h2.1 (h.em.tame k (fun j q => by subst q; exact hB.notT (by decide))), h2.2⟩
theorem ES.take {w : World} {c : SC} {s r : List Int} {M K rb tb g cap e0 i : Nat} (h : ES B w c s r M K rb tb g cap e0 i) (hM : M ≤ 900000) (a b d : Int) : Calls Tryf.prog 12 #[.int .i64 a, .int .i64 b, .int .i64 d, .pointer (some ⟨c.lb, 0, none⟩)] w fun e w' => e = .returned (.tuple #[]) ∧ ES B w' c s r (M + 1) K rb tb g cap e0 i ∧ Tame B false w w' (fun k => k = c.lb) := by
  obtain ⟨m, hm, hL⟩ := h.st.lg
  refine (log_any c.lb m a b d w hL h.st.ne.2 (by omega)).mono ?_
  rintro e w' ⟨rfl, h1, h2⟩
  obtain ⟨v, hB, _⟩ := hL
  exact ⟨rfl, h.next h2 (fun j q => by subst q; exact hB.out (by decide) (by decide) (by decide) (by decide) (by decide)) (h.st.logged hm h1 h2).1 (h.em.tame h2 (fun j q => by subst q; exact hB.notT (by decide))), h2⟩
theorem ES.put {w : World} {c : SC} {s r : List Int} {M K rb tb g cap e0 i : Nat} (h : ES B w c s r M K rb tb g cap e0 i) (hi : i < c.ids.length) (ao : Option Addr) (cp : Nat) (hv : IR B 76 2 w (.slice ao 0 cp) 0) : ES B (w.setCell ⟨g, i, none⟩ (.slice ao 0 cp)) c s r M K rb tb g cap e0 (i + 1) ∧ Tame B true w (w.setCell ⟨g, i, none⟩ (.slice ao 0 cp)) c.own := by
  obtain ⟨cur, hB, h1⟩ := h.em
  have k : Tame B false w (w.setCell ⟨g, i, none⟩ (.slice ao 0 cp)) (fun k => k = g) := Tame.ofKept (Kept.one _ _ _ _)
  have h2 := h.st.put h.c5 i hi _ 0 hv (Nat.zero_le _) (Nat.le_refl _)
  have hc : ∃ v, w.cell? ⟨g, i, none⟩ = some v := by
    rcases h.st.w5 with c5 | ⟨g', cap', cur, c5, hcap, hB, hsz, hall⟩
    · rw [h.c5] at c5; cases c5
    · rw [h.c5] at c5
      cases c5
      obtain ⟨v, m, hv, _⟩ := hall i hi
      exact ⟨v, (hB.cell i).trans hv⟩
  exact ⟨h.next k (fun j q => by subst q; exact hB.out (by decide) (by decide) (by decide) (by decide) (by decide)) h2.1 (h.em.put hc ao cp), h2.2⟩
theorem ES.at {w : World} {c : SC} {s r : List Int} {M K rb tb g cap e0 i : Nat} (h : ES B w c s r M K rb tb g cap e0 i) {j : Nat} (hj : j < c.ids.length) : ∃ ao m k, w.cell? ⟨g, j, none⟩ = some (.slice ao m k) ∧ IR B 76 2 w (.slice ao m k) m ∧ m ≤ K := by
  rcases h.st.w5 with c5 | ⟨g', cap', cur, c5, hcap, hB, hsz, hall⟩
  · rw [h.c5] at c5; cases c5
  · rw [h.c5] at c5
    cases c5
    obtain ⟨v, m, hv, hI, hmK⟩ := hall j hj
    obtain ⟨ao, k, rfl⟩ := hI.form
    exact ⟨ao, m, k, (hB.cell j).trans hv, hI, hmK⟩
/-- The shuffle's frame. -/
theorem ES.shuf {w w' : World} {c : SC} {s r : List Int} {M K rb tb g cap e0 i xb gx n cp : Nat} (h : ES B w c s r M K rb tb g cap e0 i) (hS : SH w rb tb xb gx n cp) (hgx : B ≤ gx) (hS' : SH w' rb tb xb gx n cp) (k : Kept w w' (fun k => k = tb ∨ k = gx)) : ES B w' c s r M K rb tb g cap e0 i ∧ Tame B false w w' (fun k => k = tb) := by
  obtain ⟨ao, c', l, i', h1, _⟩ := h.rp.2.2
  have t : Tame B false w w' (fun k => k = tb) := by
    refine ⟨k.os, k.tape, k.output, k.size, fun j hj hx => ?_⟩
    by_cases e : j = gx
    · subst e; exact .inr ⟨hgx, .inr ⟨76, cp * 2, .inl rfl, hS.ib, hS'.ib⟩⟩
    · exact .inl (k.block j hj (fun q => q.elim hx e))
  have nt : ∀ T, (62 : TypeId) ≠ T → ∀ j, j = tb → NotT w j T := fun T hT j e => by subst e; exact h1.notT hT
  obtain ⟨wv, h3, hW⟩ := h.st.sb
  have h2 := Blk.tame h3 t (fun q => nt 70 (by decide) _ q _ h3) (hardF _ (by decide) (by decide))
  obtain ⟨m, hm, v, hl, _⟩ := h.st.lg
  have hst := h.st.redo t (fun j q => ⟨fun e => nt 42 (by decide) _ (e.symm.trans q) _ h.st.nb, fun e => nt 43 (by decide) _ (e.symm.trans q) _ hl, nt _ (by decide) j q, nt _ (by decide) j q, nt _ (by decide) j q⟩) ⟨wv, h2, hW.tame t (.inl rfl) (hardF _ (by decide) (by decide)) (fun j q => .inl (nt _ (by decide) j q)) (fun j q => nt _ (by decide) j q)⟩
  have e1 : w.cell? ⟨c.sb, 5, none⟩ = some wv := Blk.cell h3 5
  rw [h.c5] at e1
  cases e1
  exact ⟨⟨hst, hS'.rs, Blk.cell h2 5, h.em.tame t (nt _ (by decide)), h.e0.tame t (fun q => nt 28 (by decide) _ q _ h.e0) (hardF _ (by decide) (by decide))⟩, t⟩
end Go.Proofs.Qxb6003861aFmt
