import Derived.Test.Qxb6003861aFmtAdI
import Derived.Deep.RegionHeld3
namespace Go.Proofs.Qxb6003861aFmt
open Go.RowKit
set_option linter.unusedVariables false
set_option linter.unusedSimpArgs false
variable {B : Nat}

theorem ST.redo {w w' : World} {c : SC} {s r : List Int} {M K K' : Nat} {X : Nat → Prop} (h : ST B w c s r M K) (k : Tame B false w w' X)
    (hX : ∀ g, X g → g ≠ c.nb ∧ g ≠ c.lb ∧ NotT w g 3 ∧ NotT w g 2 ∧ NotT w g 47)
    (hsb : ∃ wv, SB w' c.sb c.nb c.lb c.limit (.slice c.so c.ids.length c.sc) (.slice c.ro c.ids.length c.rc) wv ∧ WT B 66 76 2 w' wv c.ids.length K') : ST B w' c s r M K' := by
  obtain ⟨m, hm, v, h3, h4⟩ := h.lg
  exact ⟨hsb,
    h.nb.tame k (fun q => (hX _ q).1 rfl) (hardF _ (by decide) (by decide)), h.nv.tame k (hardF _ (by decide) (by decide)) (fun g q => .inr (hX g q).2.2.2.1), h.le,
    ⟨m, hm, v, h3.tame k (fun q => (hX _ q).2.1 rfl) (hardF _ (by decide) (by decide)), h4.tame (.inr rfl) k (fun g q => (hX g q).2.2.2.2)⟩,
    h.si.tame k (hardF _ (by decide) (by decide)) (fun g q => .inr (hX g q).2.2.1), h.ri.tame k (hardF _ (by decide) (by decide)) (fun g q => .inr (hX g q).2.2.1), h.sl, h.rl, h.ne⟩
/-- A block of another kind is none of the step's. -/
theorem ST.off {w : World} {c : SC} {s r : List Int} {M K : Nat} (h : ST B w c s r M K) {g : Nat} {T : TypeId} {xs : Array Value} (hB : Blk w g T xs) (h42 : T ≠ 42) (h43 : T ≠ 43) (h3 : T ≠ 3) (h2 : T ≠ 2) (h47 : T ≠ 47) : g ≠ c.nb ∧ g ≠ c.lb ∧ NotT w g 3 ∧ NotT w g 2 ∧ NotT w g 47 := by
  obtain ⟨m, hm, v, hl, _⟩ := h.lg
  refine ⟨fun e => ?_, fun e => ?_, hB.notT h3, hB.notT h2, hB.notT h47⟩
  · subst e; exact hB.notT h42 _ h.nb
  · subst e; exact hB.notT h43 _ hl
/-- The waiting lists are laid. -/
theorem ST.wait {w : World} {c : SC} {s r : List Int} {M K K' : Nat} (h : ST B w c s r M K) (v : Value) (hv : WT B 66 76 2 w v c.ids.length K') : ST B (w.setCell ⟨c.sb, 5, none⟩ v) c s r M K' ∧ Tame B true w (w.setCell ⟨c.sb, 5, none⟩ v) c.own := by
  obtain ⟨wv, h1, h2⟩ := h.sb
  have k : Tame B false w (w.setCell ⟨c.sb, 5, none⟩ v) (fun k => k = c.sb) := Tame.ofKept (Kept.one _ _ _ _)
  refine ⟨h.redo k ?_ ⟨v, Blk.set h1 5 v, hv.tame k (.inl rfl) (hardF _ (by decide) (by decide)) ?_ ?_⟩, (k.up true).mono fun j _ q => .inl q⟩
  · rintro g rfl
    exact h.off h1 (by decide) (by decide) (by decide) (by decide) (by decide)
  · rintro g rfl
    exact .inl (Blk.notT h1 (by decide))
  · rintro g rfl
    exact Blk.notT h1 (by decide)
/-- One of the lists. -/
theorem ST.w5 {w : World} {c : SC} {s r : List Int} {M K : Nat} (h : ST B w c s r M K) : w.cell? ⟨c.sb, 5, none⟩ = some (.slice none 0 0) ∨ ∃ g cap cur, w.cell? ⟨c.sb, 5, none⟩ = some (.slice (some ⟨g, 0, none⟩) c.ids.length cap) ∧ (c.ids.length ≤ cap ∧ B ≤ g) ∧ Blk w g 66 cur ∧ c.ids.length ≤ cur.size ∧ ∀ i, i < c.ids.length → ∃ v m, cur[i]? = some v ∧ IR B 76 2 w v m ∧ m ≤ K := by
  obtain ⟨wv, h1, h2⟩ := h.sb
  have h5 : w.cell? ⟨c.sb, 5, none⟩ = some wv := Blk.cell h1 5
  rcases h2 with rfl | ⟨g, cap, cur, rfl, h2, h3, h4, h6⟩
  · exact .inl h5
  · exact .inr ⟨g, cap, cur, h5, h2, h3, h4, h6⟩
theorem ST.put {w : World} {c : SC} {s r : List Int} {M K K' : Nat} (h : ST B w c s r M K) {g cap : Nat} (h5 : w.cell? ⟨c.sb, 5, none⟩ = some (.slice (some ⟨g, 0, none⟩) c.ids.length cap)) (j : Nat) (hj : j < c.ids.length) (v : Value) (m : Nat) (hv : IR B 76 2 w v m) (hm : m ≤ K') (hK : K ≤ K') : ST B (w.setCell ⟨g, j, none⟩ v) c s r M K' ∧ Tame B true w (w.setCell ⟨g, j, none⟩ v) c.own := by
  obtain ⟨wv, h1, h2⟩ := h.sb
  have h5' : w.cell? ⟨c.sb, 5, none⟩ = some wv := Blk.cell h1 5
  rw [h5] at h5'
  cases h5'
  rcases h2 with q | ⟨g', cap', cur, q, h2, h3, h4, h6⟩
  · cases q
  cases q
  have k : Tame B false w (w.setCell ⟨g, j, none⟩ v) (fun k => k = g) := Tame.ofKept (Kept.one _ _ _ _)
  have hs : Blk (w.setCell ⟨g, j, none⟩ v) g 66 (cur.setIfInBounds j v) := h3.set j v
  have nt : ∀ T, (66 : TypeId) ≠ T → ∀ i, i = g → NotT w i T := fun T hT i e => by subst e; exact h3.notT hT
  refine ⟨h.redo k ?_ ⟨_, Blk.tame h1 k ?_ (hardF _ (by decide) (by decide)), .inr ⟨g, cap, _, rfl, h2, hs, by simpa using h4, fun i hi => ?_⟩⟩, ?_⟩
  · rintro i rfl
    exact h.off h3 (by decide) (by decide) (by decide) (by decide) (by decide)
  · intro e
    subst e
    exact Blk.notT h1 (T' := 66) (by decide) _ h3
  · by_cases e : i = j
    · subst e
      exact ⟨v, m, by simp [Array.getElem?_setIfInBounds]; omega, hv.tame (.inl rfl) k (fun i q => nt _ (by decide) i q), hm⟩
    · obtain ⟨v0, m0, a, b, d⟩ := h6 i hi
      exact ⟨v0, m0, by rw [Array.getElem?_setIfInBounds_ne (Ne.symm e)]; exact a, b.tame (.inl rfl) k (fun i q => nt _ (by decide) i q), by omega⟩
  · refine ⟨k.os, k.tape, k.output, k.size, fun i hi hx => ?_⟩
    by_cases e : i = g
    · subst e
      exact .inr ⟨h2.2, .inl ⟨rfl, cur, _, h3, hs⟩⟩
    · exact (k.up true).block i hi e
theorem run_zeros (w : World) (ty : TypeId) (n : Nat) (hBw : B ≤ w.heap.size) (h0 : 0 < n) (h64 : n ≤ 64) : ∃ v' w', (Builtin.append_ #[64, 3] ty #[.slice none 0 0, .int .i64 n]).run Tryf.prog w = .ok v' w' ∧
    (∃ g cap, v' = .slice (some ⟨g, 0, none⟩) n cap) ∧ WT B 66 76 2 w' v' n 0 ∧ Tame B false w w' (fun _ => False) := by
  obtain ⟨i, hi, hz, h1, h2⟩ := info_at info66
  have hr := Lib.run_append_nil_zeros (P := Tryf.prog) w 64 3 ty 66 i _ .i64 .i64 Tryf.underlying64 Tryf.underlying3 hi hz n h0 (by omega) (by omega) (by rw [h2]; omega)
  refine ⟨_, _, hr, ⟨_, _, rfl⟩, .inr ⟨_, _, _, rfl, ⟨grownCap_ge w n 0 66, hBw⟩, Blk.new w.drew 66 _, ?_, fun j hj => ⟨.slice none 0 0, 0, ?_, .inl ⟨rfl, rfl⟩, Nat.le_refl _⟩⟩, (Tame.refl false w _).drew.alloc _⟩
  · simp [size_zeroCells, Value.cells]
  · rw [Array.getElem?_append_left (by simp [size_zeroCells, Value.cells]; omega)]
    simp only [Builtin.zeroCells, Value.cells]
    simp [hj, Nat.mod_one]
theorem step_app2 {t t2 : TypeId} {ops : Array Oper} {o : Oper} {a : Act} {w : World} {K : Act → World → Prop} {Q : Exit → Act → World → Prop} {E : Prop} (hgd : o.guard = none) (s y : Operand)
    (ho : o.op = .call { callee := .builtin .append, args := #[s, y], argTypes := #[t, t2] })
    (vs vx : Value) (hv : a.eval s = vs) (hx : a.eval y = vx) {R : Value → World → Prop} (hr : ∃ v' w', (Builtin.append_ #[t, t2] o.type #[vs, vx]).run Tryf.prog w = .ok v' w' ∧ R v' w')
    (h : ∀ v' w', R v' w' → K (a.put o.dst v') w') : if Region.wanted o (yielded ops a.tmps) = true then Oper.wp Tryf.prog o a w K Q else E := by
  have hw : Region.wanted o (yielded ops a.tmps) = true := by simp [Region.wanted, hgd]
  rw [if_pos hw]
  obtain ⟨v', w', hr, h2⟩ := hr
  exact Lib.wp_append_run w s y t t2 ho vs vx hv hx v' w' hr (h v' w' h2)
end Go.Proofs.Qxb6003861aFmt
