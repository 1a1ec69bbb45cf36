import Derived.Test.Qxb6003861aFmtAdU
import Derived.Test.Qxb6003861aFmtAdM
import Derived.Test.Qxb6003861aFmtAdI
namespace Go.Proofs.Qxb6003861aFmt
open Go.RowKit
set_option linter.unusedVariables false
set_option linter.unusedSimpArgs false
variable {B : Nat}

/-- What does not change in a run. -/
structure RC where
  c : SC
  msb : Nat
  mrb : Nat
  wtb : Nat
  rsb : Nat
  e0 : Nat
  ta : Option Addr
  tp : List Int
  f3 : Value
  f4 : Value
  f5 : Value
  f6 : Value
def Z7 : Array Value := #[.bool false, .bool false, .bool false, .int .i64 0, .int .i64 0, .slice none 0 0, .slice none 0 0]
structure RC.ok (k : RC) (B : Nat) (w0 : World) : Prop where
  sz : w0.heap.size ≤ B
  ne : k.msb ≠ k.mrb
  wl : k.wtb ≠ k.c.lb
  re : k.rsb ≠ k.e0
  so : k.c.so ≠ some ⟨k.msb, 0, none⟩ ∧ k.c.ro ≠ some ⟨k.msb, 0, none⟩ ∧ k.c.so ≠ some ⟨k.mrb, 0, none⟩ ∧ k.c.ro ≠ some ⟨k.mrb, 0, none⟩
  nil : k.c.ids = [] → k.c.so = none ∧ k.c.ro = none
  own : ∀ j, k.c.own j → B ≤ j
  new : B ≤ k.msb ∧ B ≤ k.mrb ∧ B ≤ k.wtb ∧ B ≤ k.rsb ∧ B ≤ k.e0
/-- The run at work. -/
structure RU (B : Nat) (w0 W : World) (k : RC) (s r s2 r2 : List Int) (M K : Nat) (xv : Value) : Prop where
  ok : k.ok B w0
  kp : Kept w0 W (fun _ => False)
  tp : UW W k.ta k.tp
  st : ST B W k.c s r M K
  ms : Blk W k.msb 3 (ic s2).toArray
  mr : Blk W k.mrb 3 (ic r2).toArray
  l2 : s2.length = k.c.ids.length ∧ r2.length = k.c.ids.length
  wt : WT B 43 47 3 W (.slice (some ⟨k.wtb, 0, none⟩) k.c.ids.length k.c.ids.length) k.c.ids.length K
  xp : ∃ x, x ≤ M ∧ IR B 47 3 W xv x
  rs : ∃ p q, Blk W k.rsb 31 #[.bool p, .bool q, .bool true, k.f3, k.f4, k.f5, k.f6]
  e0 : Blk W k.e0 31 Z7
theorem RU.kept' {w0 W W' : World} {k : RC} {S : Bool} {X : Nat → Prop} (hok : k.ok B w0) (kp : Kept w0 W (fun _ => False)) (t : Tame B S W W' X) (hX : ∀ j, X j → B ≤ j) : Kept w0 W' (fun _ => False) := by
  refine ⟨t.os.trans kp.os, t.tape.trans kp.tape, t.output.trans kp.output, Nat.le_trans kp.size t.size, fun j hj _ => ?_⟩
  have h1 := hok.sz
  rcases t.block j (Nat.lt_of_lt_of_le hj kp.size) (fun q => by have := hX j q; omega) with q | q
  · exact q.trans (kp.block j hj id)
  · have := q.1
    omega
theorem RU.quiet {w0 W W' : World} {k : RC} {s r s2 r2 : List Int} {M K : Nat} {xv : Value} (h : RU B w0 W k s r s2 r2 M K xv) (t : Tame B false W W' (fun _ => False)) : RU B w0 W' k s r s2 r2 M K xv := by
  obtain ⟨x, hx, hI⟩ := h.xp
  obtain ⟨p, q, hr⟩ := h.rs
  exact ⟨h.ok, RU.kept' h.ok h.kp t (fun _ q => q.elim), h.tp.tame t (fun _ q => q.elim), h.st.tame t (fun _ q => q.elim), h.ms.tame t id (hardF _ (by decide) (by decide)), h.mr.tame t id (hardF _ (by decide) (by decide)), h.l2,
    h.wt.tame t (.inr rfl) (hardF _ (by decide) (by decide)) (fun _ q => q.elim) (fun _ q => q.elim), ⟨x, hx, hI.tame (.inr rfl) t (fun _ q => q.elim)⟩, ⟨p, q, hr.tame t id (hardF _ (by decide) (by decide))⟩, h.e0.tame t id (hardF _ (by decide) (by decide))⟩
theorem RU.drewN {w0 W : World} {k : RC} {s r s2 r2 : List Int} {M K : Nat} {xv : Value} (h : RU B w0 W k s r s2 r2 M K xv) (n : Nat) : RU B w0 (W.drewN n) k s r s2 r2 M K xv := h.quiet ((Tame.refl _ _ _).drewN n)
theorem RU.alloc {w0 W : World} {k : RC} {s r s2 r2 : List Int} {M K : Nat} {xv : Value} (h : RU B w0 W k s r s2 r2 M K xv) (o : Obj) : RU B w0 (W.alloc o) k s r s2 r2 M K xv := h.quiet ((Tame.refl _ _ _).alloc o)
theorem RU.mono {w0 W : World} {k : RC} {s r s2 r2 : List Int} {M K M' K' : Nat} {xv : Value} (h : RU B w0 W k s r s2 r2 M K xv) (hM : M ≤ M') (hK : K ≤ K') : RU B w0 W k s r s2 r2 M' K' xv := by
  obtain ⟨x, hx, hI⟩ := h.xp
  exact ⟨h.ok, h.kp, h.tp, h.st.mono hM hK, h.ms, h.mr, h.l2, h.wt.mono hK, ⟨x, by omega, hI⟩, h.rs, h.e0⟩
/-- Of which kinds the step's own blocks are. -/
theorem RU.kinds {w0 W : World} {k : RC} {s r s2 r2 : List Int} {M K : Nat} {xv : Value} (h : RU B w0 W k s r s2 r2 M K xv) {j : Nat} (hj : k.c.own j) : (∃ xs, Blk W j 70 xs) ∨ (j = k.c.lb ∧ ∃ xs, Blk W j 43 xs) ∨ ((∃ xs, Blk W j 3 xs) ∧ j ≠ k.msb ∧ j ≠ k.mrb) := by
  rcases hj with rfl | rfl | e | e
  · obtain ⟨wv, h1, _⟩ := h.st.sb
    exact .inl ⟨_, h1⟩
  · obtain ⟨m, _, v, h1, _⟩ := h.st.lg
    exact .inr (.inl ⟨rfl, _, h1⟩)
  · refine .inr (.inr ⟨?_, fun e2 => ?_, fun e2 => ?_⟩)
    · rcases h.st.si with q | ⟨g, e3, hB⟩
      · have : k.c.ids = [] := List.eq_nil_of_length_eq_zero (by rw [← h.st.sl, q]; rfl)
        rw [(h.ok.nil this).1] at e; cases e
      · rw [e3] at e; cases e; exact ⟨_, hB⟩
    · rw [e2] at e; exact h.ok.so.1 e
    · rw [e2] at e; exact h.ok.so.2.2.1 e
  · refine .inr (.inr ⟨?_, fun e2 => ?_, fun e2 => ?_⟩)
    · rcases h.st.ri with q | ⟨g, e3, hB⟩
      · have : k.c.ids = [] := List.eq_nil_of_length_eq_zero (by rw [← h.st.rl, q]; rfl)
        rw [(h.ok.nil this).2] at e; cases e
      · rw [e3] at e; cases e; exact ⟨_, hB⟩
    · rw [e2] at e; exact h.ok.so.2.1 e
    · rw [e2] at e; exact h.ok.so.2.2.2 e
/-- None of the step's own blocks is of another kind. -/
theorem RU.notOwn {w0 W : World} {k : RC} {s r s2 r2 : List Int} {M K : Nat} {xv : Value} (h : RU B w0 W k s r s2 r2 M K xv) {T : TypeId} (h1 : (70 : TypeId) ≠ T) (h2 : (43 : TypeId) ≠ T) (h3 : (3 : TypeId) ≠ T) (j : Nat) (hj : k.c.own j) : NotT W j T := by
  rcases h.kinds hj with ⟨xs, q⟩ | ⟨_, xs, q⟩ | ⟨⟨xs, q⟩, _⟩
  · exact q.notT h1
  · exact q.notT h2
  · exact q.notT h3
theorem RU.own3 {w0 W : World} {k : RC} {s r s2 r2 : List Int} {M K : Nat} {xv : Value} (h : RU B w0 W k s r s2 r2 M K xv) {j : Nat} {xs : Array Value} (hB : Blk W j 3 xs) (hj : j = k.msb ∨ j = k.mrb) : ¬ k.c.own j := by
  intro q
  rcases h.kinds q with ⟨xs, q⟩ | ⟨_, xs, q⟩ | ⟨_, q1, q2⟩
  · exact q.notT (T' := 3) (by decide) _ hB
  · exact q.notT (T' := 3) (by decide) _ hB
  · exact hj.elim q1 q2
/-- A call of the step. -/
theorem RU.step {w0 W W' : World} {k : RC} {s r s2 r2 s' r' : List Int} {M K M' K' : Nat} {xv : Value} (h : RU B w0 W k s r s2 r2 M K xv) (st' : ST B W' k.c s' r' M' K') (t : Tame B true W W' k.c.own) (hM : M ≤ M') (hK : K ≤ K') : RU B w0 W' k s' r' s2 r2 M' K' xv := by
  obtain ⟨x, hx, hI⟩ := h.xp
  obtain ⟨p, q, hr⟩ := h.rs
  have n31 := fun j hj => h.notOwn (T := 31) (by decide) (by decide) (by decide) j hj
  refine ⟨h.ok, RU.kept' h.ok h.kp t h.ok.own, h.tp.tame t (fun j q => h.notOwn (by decide) (by decide) (by decide) j q), st', h.ms.tame t (h.own3 h.ms (.inl rfl)) (hardT _ (by decide) (by decide) (by decide)), h.mr.tame t (h.own3 h.mr (.inr rfl)) (hardT _ (by decide) (by decide) (by decide)), h.l2,
    (h.wt.tame t (.inr rfl) (hardT _ (by decide) (by decide) (by decide)) (fun j q => ?_) (fun j q => h.notOwn (by decide) (by decide) (by decide) j q)).mono hK, ⟨x, by omega, hI.tame (.inr rfl) t (fun j q => h.notOwn (by decide) (by decide) (by decide) j q)⟩, ⟨p, q, hr.tame t (fun q => n31 _ q _ hr) (hardT _ (by decide) (by decide) (by decide))⟩, h.e0.tame t (fun q => n31 _ q _ h.e0) (hardT _ (by decide) (by decide) (by decide))⟩
  rcases h.kinds q with ⟨xs, q⟩ | ⟨e, xs, q⟩ | ⟨⟨xs, q⟩, _⟩
  · exact .inl (q.notT (by decide))
  · refine .inr (fun e2 => h.ok.wl ?_)
    simp only [Value.ownBlock, Option.map_some, Option.some.injEq] at e2
    rw [e2, e]
  · exact .inl (q.notT (by decide))
theorem RU.far3 {w0 W : World} {k : RC} {s r s2 r2 : List Int} {M K : Nat} {xv : Value} (h : RU B w0 W k s r s2 r2 M K xv) {j : Nat} {xs : Array Value} (hB : Blk W j 3 xs) (hj : j = k.msb ∨ j = k.mrb) : k.c.Far W j := by
  obtain ⟨wv, h1, _⟩ := h.st.sb
  obtain ⟨m, _, v, h2, _⟩ := h.st.lg
  have hno := h.own3 hB hj
  exact ⟨fun e => hno (.inl e), fun e => hB.notT (T' := 42) (by decide) _ (by rw [e]; exact h.st.nb), fun e => hno (.inr (.inl e)), fun e => hno (.inr (.inr (.inl e))), fun e => hno (.inr (.inr (.inr e))), hB.notT (by decide), hB.notT (by decide), hB.notT (by decide), hB.notT (by decide)⟩
/-- The model's own tallies. -/
theorem RU.setS {w0 W : World} {k : RC} {s r s2 r2 : List Int} {M K : Nat} {xv : Value} (h : RU B w0 W k s r s2 r2 M K xv) (i : Nat) (z : Int) : RU B w0 (W.setCell ⟨k.msb, i, none⟩ (.int .i64 z)) k s r (s2.set i z) r2 M K xv := by
  obtain ⟨x, hx, hI⟩ := h.xp
  obtain ⟨p, q, hr⟩ := h.rs
  have t : Tame B false W (W.setCell ⟨k.msb, i, none⟩ (.int .i64 z)) (fun j => j = k.msb) := Tame.ofKept (Kept.one _ _ _ _)
  have nt : ∀ T, (3 : TypeId) ≠ T → ∀ j, j = k.msb → NotT W j T := fun T hT j e => by subst e; exact h.ms.notT hT
  exact ⟨h.ok, RU.kept' h.ok h.kp t (fun j e => by rw [e]; exact h.ok.new.1), h.tp.tame t (nt _ (by decide)), h.st.tame t (fun j e => by subst e; exact h.far3 h.ms (.inl rfl)), IWT.set h.ms i z, h.mr.tame t (fun e => h.ok.ne e.symm) (hardF _ (by decide) (by decide)), ⟨by simpa using h.l2.1, h.l2.2⟩,
    h.wt.tame t (.inr rfl) (hardF _ (by decide) (by decide)) (fun j e => .inl (nt _ (by decide) j e)) (nt _ (by decide)), ⟨x, hx, hI.tame (.inr rfl) t (nt _ (by decide))⟩, ⟨p, q, hr.tame t (fun e => nt 31 (by decide) _ e _ hr) (hardF _ (by decide) (by decide))⟩, h.e0.tame t (fun e => nt 31 (by decide) _ e _ h.e0) (hardF _ (by decide) (by decide))⟩
theorem RU.setR {w0 W : World} {k : RC} {s r s2 r2 : List Int} {M K : Nat} {xv : Value} (h : RU B w0 W k s r s2 r2 M K xv) (i : Nat) (z : Int) : RU B w0 (W.setCell ⟨k.mrb, i, none⟩ (.int .i64 z)) k s r s2 (r2.set i z) M K xv := by
  obtain ⟨x, hx, hI⟩ := h.xp
  obtain ⟨p, q, hr⟩ := h.rs
  have t : Tame B false W (W.setCell ⟨k.mrb, i, none⟩ (.int .i64 z)) (fun j => j = k.mrb) := Tame.ofKept (Kept.one _ _ _ _)
  have nt : ∀ T, (3 : TypeId) ≠ T → ∀ j, j = k.mrb → NotT W j T := fun T hT j e => by subst e; exact h.mr.notT hT
  exact ⟨h.ok, RU.kept' h.ok h.kp t (fun j e => by rw [e]; exact h.ok.new.2.1), h.tp.tame t (nt _ (by decide)), h.st.tame t (fun j e => by subst e; exact h.far3 h.mr (.inr rfl)), h.ms.tame t h.ok.ne (hardF _ (by decide) (by decide)), IWT.set h.mr i z, ⟨h.l2.1, by simpa using h.l2.2⟩,
    h.wt.tame t (.inr rfl) (hardF _ (by decide) (by decide)) (fun j e => .inl (nt _ (by decide) j e)) (nt _ (by decide)), ⟨x, hx, hI.tame (.inr rfl) t (nt _ (by decide))⟩, ⟨p, q, hr.tame t (fun e => nt 31 (by decide) _ e _ hr) (hardF _ (by decide) (by decide))⟩, h.e0.tame t (fun e => nt 31 (by decide) _ e _ h.e0) (hardF _ (by decide) (by decide))⟩
theorem RU.wt' {w0 W : World} {k : RC} {s r s2 r2 : List Int} {M K : Nat} {xv : Value} (h : RU B w0 W k s r s2 r2 M K xv) : ∃ cur, Blk W k.wtb 43 cur ∧ k.c.ids.length ≤ cur.size ∧ ∀ i, i < k.c.ids.length → ∃ v m, cur[i]? = some v ∧ IR B 47 3 W v m ∧ m ≤ K := by
  rcases h.wt with q | ⟨g, cap, cur, q, _, h1, h2, h3⟩
  · cases q
  · cases q; exact ⟨cur, h1, h2, h3⟩
/-- The model's own waiting lists. -/
theorem RU.setW {w0 W : World} {k : RC} {s r s2 r2 : List Int} {M K K' : Nat} {xv : Value} (h : RU B w0 W k s r s2 r2 M K xv) (i : Nat) (hi : i < k.c.ids.length) (v : Value) (m : Nat) (hv : IR B 47 3 W v m) (hm : m ≤ K') (hK : K ≤ K') : RU B w0 (W.setCell ⟨k.wtb, i, none⟩ v) k s r s2 r2 M K' xv := by
  obtain ⟨x, hx, hI⟩ := h.xp
  obtain ⟨p, q, hr⟩ := h.rs
  obtain ⟨cur, hB, hsz, hall⟩ := h.wt'
  have t : Tame B false W (W.setCell ⟨k.wtb, i, none⟩ v) (fun j => j = k.wtb) := Tame.ofKept (Kept.one _ _ _ _)
  have nt : ∀ T, (43 : TypeId) ≠ T → ∀ j, j = k.wtb → NotT W j T := fun T hT j e => by subst e; exact hB.notT hT
  obtain ⟨wv, h1, _⟩ := h.st.sb
  have far : ∀ j, j = k.wtb → k.c.Far W j := fun j e => by
    refine ⟨fun e2 => nt 70 (by decide) j e _ (by rw [e2]; exact h1), fun e2 => nt 42 (by decide) j e _ (by rw [e2]; exact h.st.nb), fun e2 => h.ok.wl (by rw [← e, e2]), fun e2 => ?_, fun e2 => ?_, nt _ (by decide) j e, nt _ (by decide) j e, nt _ (by decide) j e, nt _ (by decide) j e⟩
    · rcases h.kinds (j := j) (.inr (.inr (.inl e2))) with ⟨xs, q⟩ | ⟨e3, xs, q⟩ | ⟨⟨xs, q⟩, _⟩
      · exact nt 70 (by decide) j e _ q
      · exact h.ok.wl (by rw [← e, e3])
      · exact nt 3 (by decide) j e _ q
    · rcases h.kinds (j := j) (.inr (.inr (.inr e2))) with ⟨xs, q⟩ | ⟨e3, xs, q⟩ | ⟨⟨xs, q⟩, _⟩
      · exact nt 70 (by decide) j e _ q
      · exact h.ok.wl (by rw [← e, e3])
      · exact nt 3 (by decide) j e _ q
  refine ⟨h.ok, RU.kept' h.ok h.kp t (fun j e => by rw [e]; exact h.ok.new.2.2.1), h.tp.tame t (nt _ (by decide)), (h.st.tame t far).mono (Nat.le_refl _) hK, h.ms.tame t (fun e => nt 3 (by decide) _ e _ h.ms) (hardF _ (by decide) (by decide)), h.mr.tame t (fun e => nt 3 (by decide) _ e _ h.mr) (hardF _ (by decide) (by decide)), h.l2,
    ?_, ⟨x, hx, hI.tame (.inr rfl) t (nt _ (by decide))⟩, ⟨p, q, hr.tame t (fun e => nt 31 (by decide) _ e _ hr) (hardF _ (by decide) (by decide))⟩, h.e0.tame t (fun e => nt 31 (by decide) _ e _ h.e0) (hardF _ (by decide) (by decide))⟩
  refine .inr ⟨k.wtb, k.c.ids.length, _, rfl, ⟨Nat.le_refl _, h.ok.new.2.2.1⟩, hB.set i v, by simpa using hsz, fun j hj => ?_⟩
  by_cases e : i = j
  · subst e
    exact ⟨v, m, by simp [Array.getElem?_setIfInBounds]; omega, hv.tame (.inr rfl) t (nt _ (by decide)), hm⟩
  · obtain ⟨v0, m0, a, b, d⟩ := hall j hj
    exact ⟨v0, m0, by rw [Array.getElem?_setIfInBounds_ne e]; exact a, b.tame (.inr rfl) t (nt _ (by decide)), by omega⟩
/-- The flags. -/
theorem RU.setF {w0 W : World} {k : RC} {s r s2 r2 : List Int} {M K : Nat} {xv : Value} (h : RU B w0 W k s r s2 r2 M K xv) (f : Nat) (hf : f = 0 ∨ f = 1) : RU B w0 (W.setCell ⟨k.rsb, f, none⟩ (.bool false)) k s r s2 r2 M K xv := by
  obtain ⟨x, hx, hI⟩ := h.xp
  obtain ⟨p, q, hr⟩ := h.rs
  have t : Tame B false W (W.setCell ⟨k.rsb, f, none⟩ (.bool false)) (fun j => j = k.rsb) := Tame.ofKept (Kept.one _ _ _ _)
  have nt : ∀ T, (31 : TypeId) ≠ T → ∀ j, j = k.rsb → NotT W j T := fun T hT j e => by subst e; exact hr.notT hT
  obtain ⟨wv, h1, hW⟩ := h.st.sb
  have st' : ST B (W.setCell ⟨k.rsb, f, none⟩ (.bool false)) k.c s r M K := by
    obtain ⟨m, hm, v, h3, h4⟩ := h.st.lg
    exact ⟨⟨wv, Blk.tame h1 t (fun e => nt 70 (by decide) _ e _ h1) (hardF _ (by decide) (by decide)), hW.tame t (.inl rfl) (hardF _ (by decide) (by decide)) (fun j e => .inl (nt _ (by decide) j e)) (nt _ (by decide))⟩, h.st.nb.tame t (fun e => nt 42 (by decide) _ e _ h.st.nb) (hardF _ (by decide) (by decide)), h.st.nv.tame t (hardF _ (by decide) (by decide)) (fun j e => .inr (nt _ (by decide) j e)), h.st.le, ⟨m, hm, v, h3.tame t (fun e => nt 43 (by decide) _ e _ h3) (hardF _ (by decide) (by decide)), h4.tame (.inr rfl) t (nt _ (by decide))⟩, h.st.si.tame t (hardF _ (by decide) (by decide)) (fun j e => .inr (nt _ (by decide) j e)), h.st.ri.tame t (hardF _ (by decide) (by decide)) (fun j e => .inr (nt _ (by decide) j e)), h.st.sl, h.st.rl, h.st.ne⟩
  refine ⟨h.ok, RU.kept' h.ok h.kp t (fun j e => by rw [e]; exact h.ok.new.2.2.2.1), h.tp.tame t (nt _ (by decide)), st', h.ms.tame t (fun e => nt 3 (by decide) _ e _ h.ms) (hardF _ (by decide) (by decide)), h.mr.tame t (fun e => nt 3 (by decide) _ e _ h.mr) (hardF _ (by decide) (by decide)), h.l2,
    h.wt.tame t (.inr rfl) (hardF _ (by decide) (by decide)) (fun j e => .inl (nt _ (by decide) j e)) (nt _ (by decide)), ⟨x, hx, hI.tame (.inr rfl) t (nt _ (by decide))⟩, ?_, h.e0.tame t (fun e => h.ok.re e.symm) (hardF _ (by decide) (by decide))⟩
  have hs := hr.set f (.bool false)
  rcases hf with rfl | rfl
  · exact ⟨false, q, hs⟩
  · exact ⟨p, false, hs⟩
/-- The list that is hoped for. -/
theorem RU.exp {w0 W W' : World} {k : RC} {s r s2 r2 : List Int} {M K M' x : Nat} {xv xv' : Value} (h : RU B w0 W k s r s2 r2 M K xv) (t : Tame B false W W' (fun _ => False)) (hI : IR B 47 3 W' xv' x) (hM : M ≤ M') (hx : x ≤ M') : RU B w0 W' k s r s2 r2 M' K xv' := by
  have h2 := (h.quiet t).mono hM (Nat.le_refl _)
  exact ⟨h2.ok, h2.kp, h2.tp, h2.st, h2.ms, h2.mr, h2.l2, h2.wt, ⟨x, hx, hI⟩, h2.rs, h2.e0⟩
end Go.Proofs.Qxb6003861aFmt
