import Derived.Test.Qxb6003861aFmtAdV
import Derived.Test.Qxb6003861aFmtAdR
import Derived.Test.Qxb6003861aFmtAdL
import Derived.Test.Qxb6003861aFmtAdIb
import Derived.Test.Qxb6003861aFmtAdJ
import Derived.Test.Qxb6003861aFmtAdS
import Derived.Deep.CutRange
namespace Go.Proofs.Qxb6003861aFmt
open Go.RowKit
set_option linter.unusedVariables false
set_option linter.unusedSimpArgs false
variable {B : Nat}

/-- Blocks that the run does not look at. -/
def RC.Far (k : RC) (B : Nat) (W : World) (j : Nat) : Prop := B ≤ j ∧ k.c.Far W j ∧ j ≠ k.msb ∧ j ≠ k.mrb ∧ NotT W j 34 ∧ NotT W j 43 ∧ NotT W j 31
theorem RU.aside {w0 W W' : World} {k : RC} {s r s2 r2 : List Int} {M K : Nat} {xv : Value} {X : Nat → Prop} (h : RU B w0 W k s r s2 r2 M K xv) (t : Tame B false W W' X) (hX : ∀ j, X j → k.Far B W j) : RU B w0 W' k s r s2 r2 M K xv := by
  obtain ⟨x, hx, hI⟩ := h.xp
  obtain ⟨p, q, hr⟩ := h.rs
  exact ⟨h.ok, RU.kept' h.ok h.kp t (fun j e => (hX j e).1), h.tp.tame t (fun j e => (hX j e).2.2.2.2.1), h.st.tame t (fun j e => (hX j e).2.1), h.ms.tame t (fun e => (hX _ e).2.2.1 rfl) (hardF _ (by decide) (by decide)), h.mr.tame t (fun e => (hX _ e).2.2.2.1 rfl) (hardF _ (by decide) (by decide)), h.l2,
    h.wt.tame t (.inr rfl) (hardF _ (by decide) (by decide)) (fun j e => .inl (hX j e).2.2.2.2.2.1) (fun j e => (hX j e).2.1.2.2.2.2.2.2.2.2), ⟨x, hx, hI.tame (.inr rfl) t (fun j e => (hX j e).2.1.2.2.2.2.2.2.2.2)⟩, ⟨p, q, hr.tame t (fun e => (hX _ e).2.2.2.2.2.2 _ hr) (hardF _ (by decide) (by decide))⟩, h.e0.tame t (fun e => (hX _ e).2.2.2.2.2.2 _ h.e0) (hardF _ (by decide) (by decide))⟩
/-- A block of a kind of its own is far. -/
theorem RU.farT {w0 W : World} {k : RC} {s r s2 r2 : List Int} {M K : Nat} {xv : Value} (h : RU B w0 W k s r s2 r2 M K xv) {j : Nat} {T : TypeId} {xs : Array Value} (hB : Blk W j T xs) (hj : B ≤ j) (h70 : T ≠ 70) (h42 : T ≠ 42) (h43 : T ≠ 43) (h3 : T ≠ 3) (h2 : T ≠ 2) (h66 : T ≠ 66) (h76 : T ≠ 76) (h47 : T ≠ 47) (h34 : T ≠ 34) (h31 : T ≠ 31) : k.Far B W j := by
  have hno : ¬ k.c.own j := fun q => by
    rcases h.kinds q with ⟨ys, e⟩ | ⟨_, ys, e⟩ | ⟨⟨ys, e⟩, _⟩
    · exact hB.notT h70 _ e
    · exact hB.notT h43 _ e
    · exact hB.notT h3 _ e
  refine ⟨hj, ⟨fun e => hno (.inl e), fun e => hB.notT h42 _ (by rw [e]; exact h.st.nb), fun e => hno (.inr (.inl e)), fun e => hno (.inr (.inr (.inl e))), fun e => hno (.inr (.inr (.inr e))), hB.notT h2, hB.notT h66, hB.notT h76, hB.notT h47⟩, fun e => hB.notT h3 _ (by rw [e]; exact h.ms), fun e => hB.notT h3 _ (by rw [e]; exact h.mr), hB.notT h34, hB.notT h43, hB.notT h31⟩
/-- All of the step's own blocks lie in the world. -/
theorem RU.ownLt {w0 W : World} {k : RC} {s r s2 r2 : List Int} {M K : Nat} {xv : Value} (h : RU B w0 W k s r s2 r2 M K xv) {j : Nat} (hj : k.c.own j) : j < W.heap.size := by
  rcases h.kinds hj with ⟨ys, e⟩ | ⟨_, ys, e⟩ | ⟨⟨ys, e⟩, _⟩
  · exact e.lt
  · exact e.lt
  · exact e.lt
/-- A row of numbers made beside them is far. -/
theorem RU.far3' {w0 W : World} {k : RC} {s r s2 r2 : List Int} {M K : Nat} {xv : Value} (h : RU B w0 W k s r s2 r2 M K xv) {j : Nat} {xs : Array Value} (hB : Blk W j 3 xs) (hj : B ≤ j) (hno : ¬ k.c.own j) (h1 : j ≠ k.msb) (h2 : j ≠ k.mrb) : k.Far B W j :=
  ⟨hj, ⟨fun e => hno (.inl e), fun e => hB.notT (T' := 42) (by decide) _ (by rw [e]; exact h.st.nb), fun e => hno (.inr (.inl e)), fun e => hno (.inr (.inr (.inl e))), fun e => hno (.inr (.inr (.inr e))), hB.notT (by decide), hB.notT (by decide), hB.notT (by decide), hB.notT (by decide)⟩, h1, h2, hB.notT (by decide), hB.notT (by decide), hB.notT (by decide)⟩
/-- The result is filled in. -/
theorem RU.fill {w0 W W' : World} {k : RC} {s r s2 r2 : List Int} {M K : Nat} {xv : Value} {p q : Bool} {a b d e : Value} (h : RU B w0 W k s r s2 r2 M K xv) (t : Tame B false W W' (fun j => j = k.rsb)) (hr' : Blk W' k.rsb 31 #[.bool p, .bool q, .bool true, a, b, d, e]) : RU B w0 W' { k with f3 := a, f4 := b, f5 := d, f6 := e } s r s2 r2 M K xv := by
  obtain ⟨x, hx, hI⟩ := h.xp
  obtain ⟨p0, q0, hr⟩ := h.rs
  have nt : ∀ T, (31 : TypeId) ≠ T → ∀ j, j = k.rsb → NotT W j T := fun T hT j e => by subst e; exact hr.notT hT
  obtain ⟨wv, h1, hW⟩ := h.st.sb
  have st' : ST B W' k.c s r M K := by
    obtain ⟨m, hm, v, h3, h4⟩ := h.st.lg
    exact ⟨⟨wv, Blk.tame h1 t (fun e => nt 70 (by decide) _ e _ h1) (hardF _ (by decide) (by decide)), hW.tame t (.inl rfl) (hardF _ (by decide) (by decide)) (fun j e => .inl (nt _ (by decide) j e)) (nt _ (by decide))⟩, h.st.nb.tame t (fun e => nt 42 (by decide) _ e _ h.st.nb) (hardF _ (by decide) (by decide)), h.st.nv.tame t (hardF _ (by decide) (by decide)) (fun j e => .inr (nt _ (by decide) j e)), h.st.le, ⟨m, hm, v, h3.tame t (fun e => nt 43 (by decide) _ e _ h3) (hardF _ (by decide) (by decide)), h4.tame (.inr rfl) t (nt _ (by decide))⟩, h.st.si.tame t (hardF _ (by decide) (by decide)) (fun j e => .inr (nt _ (by decide) j e)), h.st.ri.tame t (hardF _ (by decide) (by decide)) (fun j e => .inr (nt _ (by decide) j e)), h.st.sl, h.st.rl, h.st.ne⟩
  exact ⟨⟨h.ok.sz, h.ok.ne, h.ok.wl, h.ok.re, h.ok.so, h.ok.nil, h.ok.own, h.ok.new⟩, RU.kept' h.ok h.kp t (fun j e => by rw [e]; exact h.ok.new.2.2.2.1), h.tp.tame t (nt _ (by decide)), st', h.ms.tame t (fun e => nt 3 (by decide) _ e _ h.ms) (hardF _ (by decide) (by decide)), h.mr.tame t (fun e => nt 3 (by decide) _ e _ h.mr) (hardF _ (by decide) (by decide)), h.l2,
    h.wt.tame t (.inr rfl) (hardF _ (by decide) (by decide)) (fun j e => .inl (nt _ (by decide) j e)) (nt _ (by decide)), ⟨x, hx, hI.tame (.inr rfl) t (nt _ (by decide))⟩, ⟨p, q, hr'⟩, h.e0.tame t (fun e => h.ok.re e.symm) (hardF _ (by decide) (by decide))⟩
/-- The step ends. -/
theorem RU.ended {w0 W W' : World} {k : RC} {s r s2 r2 s' r' : List Int} {M K M' K' tb : Nat} {xv : Value} {zs : Array Value} (h : RU B w0 W k s r s2 r2 M K xv) (hb : Blk W tb 62 zs) (htb : B ≤ tb) (st' : ST B W' k.c s' r' M' K') (t : Tame B true W W' (fun j => k.c.own j ∨ j = tb)) (hM : M ≤ M') : RU B w0 W' k s' r' s2 r2 M' (K + K') xv := by
  obtain ⟨x, hx, hI⟩ := h.xp
  obtain ⟨p, q, hr⟩ := h.rs
  have no : ∀ T, (70 : TypeId) ≠ T → (43 : TypeId) ≠ T → (3 : TypeId) ≠ T → (62 : TypeId) ≠ T → ∀ j, (k.c.own j ∨ j = tb) → NotT W j T := fun T a b d e j q => by
    rcases q with q | rfl
    · exact h.notOwn a b d j q
    · exact hb.notT e
  have n3 : ∀ {j : Nat} {xs : Array Value}, Blk W j 3 xs → (j = k.msb ∨ j = k.mrb) → ¬ (k.c.own j ∨ j = tb) := fun hB hj q => by
    rcases q with q | rfl
    · exact h.own3 hB hj q
    · exact hB.notT (T' := 62) (by decide) _ hb
  have n31 := fun j hj => no 31 (by decide) (by decide) (by decide) (by decide) j hj
  refine ⟨h.ok, RU.kept' h.ok h.kp t (fun j q => q.elim (h.ok.own j) (fun e => by rw [e]; exact htb)), h.tp.tame t (fun j q => no _ (by decide) (by decide) (by decide) (by decide) j q), st'.mono (Nat.le_refl _) (by omega), h.ms.tame t (n3 h.ms (.inl rfl)) (hardT _ (by decide) (by decide) (by decide)), h.mr.tame t (n3 h.mr (.inr rfl)) (hardT _ (by decide) (by decide) (by decide)), h.l2,
    (h.wt.tame t (.inr rfl) (hardT _ (by decide) (by decide) (by decide)) (fun j q => ?_) (fun j q => no _ (by decide) (by decide) (by decide) (by decide) j q)).mono (by omega), ⟨x, by omega, hI.tame (.inr rfl) t (fun j q => no _ (by decide) (by decide) (by decide) (by decide) j q)⟩, ⟨p, q, hr.tame t (fun q => n31 _ q _ hr) (hardT _ (by decide) (by decide) (by decide))⟩, h.e0.tame t (fun q => n31 _ q _ h.e0) (hardT _ (by decide) (by decide) (by decide))⟩
  rcases q with q | rfl
  · rcases h.kinds q with ⟨xs, q⟩ | ⟨e, xs, q⟩ | ⟨⟨xs, q⟩, _⟩
    · exact .inl (q.notT (by decide))
    · refine .inr (fun e2 => h.ok.wl ?_)
      simp only [Value.ownBlock, Option.map_some, Option.some.injEq] at e2
      rw [e2, e]
    · exact .inl (q.notT (by decide))
  · exact .inl (hb.notT (by decide))
theorem IR.iv {T : TypeId} {sz : Nat} {w : World} {ao : Option Addr} {n k : Nat} (h : IR B T sz w (.slice ao n k) n) : IV w ao n sz := by
  rcases Nat.eq_zero_or_pos n with e | hn
  · exact .inl e
  · obtain ⟨g, cap, e, _, _, _, hc⟩ := h.cells hn
    cases e
    exact .inr ⟨g, rfl, hc⟩
theorem IWT.iv {T : TypeId} {w : World} {ao : Option Addr} {l : List Int} (h : IWT T w ao l) : IV w ao l.length 1 := by
  rcases h with rfl | ⟨g, e, hB⟩
  · exact .inl rfl
  · refine .inr ⟨g, e, fun k hk => ⟨l.getD k 0, ?_⟩⟩
    rw [hB.cell]
    have := ic_get l k (by omega)
    simpa using this
theorem RU.place {w0 W : World} {k : RC} {s r s2 r2 : List Int} {M K : Nat} {xv : Value} (h : RU B w0 W k s r s2 r2 M K xv) (v : Int) : Calls Tryf.prog 8 #[.slice k.c.cao k.c.ids.length k.c.ccap, .int .i64 v] W fun e w' => e = .returned (.tuple #[.int .i64 ((pl k.c.ids v).getD 0 : Nat), .bool (pl k.c.ids v).isSome]) ∧ w' = W :=
  place_any k.c.cao k.c.ccap k.c.ids v W h.st.nv.view (by have := h.st.le; omega)
/-- The tallies that were kept ahead of the end. -/
def PR (W : World) (k : RC) (pa : Option Addr) (pr : List Int) : Prop := pr = [] ∨ ∃ g cur, pa = some ⟨g, 0, none⟩ ∧ Blk W g 3 cur ∧ cur.toList.take pr.length = ic pr ∧ ¬ k.c.own g ∧ g ≠ k.msb ∧ g ≠ k.mrb
theorem PR.tame {W W' : World} {k : RC} {pa : Option Addr} {pr : List Int} {S : Bool} {X : Nat → Prop} (h : PR W k pa pr) (t : Tame B S W W' X) (hX : ∀ j, X j → pa ≠ some ⟨j, 0, none⟩ ∨ NotT W j 3) : PR W' k pa pr := by
  rcases h with h | ⟨g, cur, e, hB, hr⟩
  · exact .inl h
  · exact .inr ⟨g, cur, e, hB.tame t (fun q => (hX g q).elim (fun n => n e) (fun n => n _ hB)) ⟨by decide, by decide, fun _ => by decide⟩, hr⟩
theorem PR.view {W : World} {k : RC} {pa : Option Addr} {pr : List Int} (h : PR W k pa pr) : View W pa (ic pr) := by
  rcases h with rfl | ⟨g, cur, e, hB, ht, _⟩
  · exact .inl rfl
  · refine .inr ⟨g, 0, e, hB.lt, fun j u hu => ?_⟩
    rw [hB.cell, Nat.zero_add]
    rw [← ht, List.getElem?_take] at hu
    split at hu
    · simpa using hu
    · cases hu
theorem PR.ne {W : World} {k : RC} {pa : Option Addr} {pr : List Int} (h : PR W k pa pr) (j : Nat) (hj : k.c.own j ∨ j = k.msb ∨ j = k.mrb ∨ W.heap.size ≤ j) : pr = [] ∨ pa ≠ some ⟨j, 0, none⟩ := by
  rcases h with h | ⟨g, cur, e, hB, ht, h1, h2, h3⟩
  · exact .inl h
  · refine .inr (fun q => ?_)
    rw [e] at q
    have : g = j := by simpa using q
    subst this
    have := hB.lt
    rcases hj with q | q | q | q
    · exact h1 q
    · exact h2 q
    · exact h3 q
    · omega
theorem PR.tame' {W W' : World} {k : RC} {pa : Option Addr} {pr : List Int} {S : Bool} {X : Nat → Prop} (h : PR W k pa pr) (t : Tame B S W W' X) (hX : ∀ j, X j → (pr = [] ∨ pa ≠ some ⟨j, 0, none⟩) ∨ NotT W j 3) : PR W' k pa pr := by
  by_cases h0 : pr = []
  · exact .inl h0
  · exact h.tame t (fun j q => (hX j q).elim (fun o => .inl (o.elim (fun e => absurd e h0) id)) .inr)
theorem PR.keep {W W' : World} {k : RC} {pa : Option Addr} {pr : List Int} {S : Bool} {X : Nat → Prop} (h : PR W k pa pr) (t : Tame B S W W' X) (hX : ∀ j, X j → (k.c.own j ∨ j = k.msb ∨ j = k.mrb ∨ W.heap.size ≤ j) ∨ NotT W j 3) : PR W' k pa pr := by
  by_cases h0 : pr = []
  · exact .inl h0
  · exact h.tame t (fun j q => (hX j q).elim (fun o => .inl ((h.ne j o).elim (fun e => absurd e h0) id)) .inr)
/-- The run behind the step's end. -/
structure R2 (B : Nat) (w0 W : World) (k : RC) (s r s2 r2 : List Int) (M K : Nat) (xv : Value) (rb tb : Nat) (pa : Option Addr) (pr : List Int) : Prop where
  ru : RU B w0 W k s r s2 r2 M K xv
  st : ST B W k.c s r M 0
  rp : RP W rb tb
  hb : B ≤ tb
  pre : PR W k pa pr
section
variable {w0 W W' : World} {k : RC} {s r s2 r2 : List Int} {M K rb tb : Nat} {xv : Value} {pa : Option Addr} {pr : List Int}
theorem R2.aside {X : Nat → Prop} (h : R2 B w0 W k s r s2 r2 M K xv rb tb pa pr) (t : Tame B false W W' X) (hX : ∀ j, X j → k.Far B W j ∧ NotT W j 82 ∧ NotT W j 62 ∧ ((pr = [] ∨ pa ≠ some ⟨j, 0, none⟩) ∨ NotT W j 3)) : R2 B w0 W' k s r s2 r2 M K xv rb tb pa pr :=
  ⟨h.ru.aside t (fun j q => (hX j q).1), h.st.tame t (fun j q => (hX j q).1.2.1), h.rp.tame t (fun j q => ⟨(hX j q).2.1, (hX j q).2.2.1, (hX j q).1.2.2.2.2.1⟩), h.hb, h.pre.tame' t (fun j q => (hX j q).2.2.2)⟩
theorem R2.quiet (h : R2 B w0 W k s r s2 r2 M K xv rb tb pa pr) (t : Tame B false W W' (fun _ => False)) : R2 B w0 W' k s r s2 r2 M K xv rb tb pa pr := h.aside t (fun _ q => q.elim)
theorem R2.setR (h : R2 B w0 W k s r s2 r2 M K xv rb tb pa pr) (i : Nat) (z : Int) : R2 B w0 (W.setCell ⟨k.mrb, i, none⟩ (.int .i64 z)) k s r s2 (r2.set i z) M K xv rb tb pa pr := by
  have t : Tame B false W (W.setCell ⟨k.mrb, i, none⟩ (.int .i64 z)) (fun j => j = k.mrb) := Tame.ofKept (Kept.one _ _ _ _)
  have nt : ∀ T, (3 : TypeId) ≠ T → ∀ j, j = k.mrb → NotT W j T := fun T hT j e => by subst e; exact h.ru.mr.notT hT
  exact ⟨h.ru.setR i z, h.st.tame t (fun j e => by subst e; exact h.ru.far3 h.ru.mr (.inr rfl)), h.rp.tame t (fun j e => ⟨nt _ (by decide) j e, nt _ (by decide) j e, nt _ (by decide) j e⟩), h.hb, h.pre.keep t (fun j e => .inl (.inr (.inr (.inl e))))⟩
theorem R2.exp {M' x : Nat} {xv' : Value} (h : R2 B w0 W k s r s2 r2 M K xv rb tb pa pr) (t : Tame B false W W' (fun _ => False)) (hI : IR B 47 3 W' xv' x) (hM : M ≤ M') (hx : x ≤ M') : R2 B w0 W' k s r s2 r2 M' K xv' rb tb pa pr :=
  ⟨h.ru.exp t hI hM hx, (h.quiet t).st.mono hM (Nat.le_refl _), (h.quiet t).rp, h.hb, (h.quiet t).pre⟩
theorem R2.mono {M' : Nat} (h : R2 B w0 W k s r s2 r2 M K xv rb tb pa pr) (hM : M ≤ M') : R2 B w0 W k s r s2 r2 M' K xv rb tb pa pr :=
  ⟨h.ru.mono hM (Nat.le_refl _), h.st.mono hM (Nat.le_refl _), h.rp, h.hb, h.pre⟩
theorem R2.setF (h : R2 B w0 W k s r s2 r2 M K xv rb tb pa pr) (f : Nat) (hf : f = 0 ∨ f = 1) : R2 B w0 (W.setCell ⟨k.rsb, f, none⟩ (.bool false)) k s r s2 r2 M K xv rb tb pa pr := by
  obtain ⟨p, q, hr⟩ := h.ru.rs
  have t : Tame B false W (W.setCell ⟨k.rsb, f, none⟩ (.bool false)) (fun j => j = k.rsb) := Tame.ofKept (Kept.one _ _ _ _)
  have nt : ∀ T, (31 : TypeId) ≠ T → ∀ j, j = k.rsb → NotT W j T := fun T hT j e => by subst e; exact hr.notT hT
  exact ⟨h.ru.setF f hf, h.st.side hr (by decide) (by decide) (by decide) (by decide) (by decide) (by decide) (by decide) (by decide) t, h.rp.tame t (fun j e => ⟨nt _ (by decide) j e, nt _ (by decide) j e, nt _ (by decide) j e⟩), h.hb, h.pre.keep t (fun j e => .inr (nt _ (by decide) j e))⟩
theorem R2.fill {p q : Bool} {a b d e : Value} (h : R2 B w0 W k s r s2 r2 M K xv rb tb pa pr) (t : Tame B false W W' (fun j => j = k.rsb)) (hr' : Blk W' k.rsb 31 #[.bool p, .bool q, .bool true, a, b, d, e]) : R2 B w0 W' { k with f3 := a, f4 := b, f5 := d, f6 := e } s r s2 r2 M K xv rb tb pa pr := by
  obtain ⟨p0, q0, hr⟩ := h.ru.rs
  have nt : ∀ T, (31 : TypeId) ≠ T → ∀ j, j = k.rsb → NotT W j T := fun T hT j e => by subst e; exact hr.notT hT
  exact ⟨h.ru.fill t hr', h.st.side hr (by decide) (by decide) (by decide) (by decide) (by decide) (by decide) (by decide) (by decide) t, h.rp.tame t (fun j e => ⟨nt _ (by decide) j e, nt _ (by decide) j e, nt _ (by decide) j e⟩), h.hb, h.pre.keep t (fun j e => .inr (nt _ (by decide) j e))⟩
theorem R2.word (h : R2 B w0 W k s r s2 r2 M K xv rb tb pa pr) (hk : Kept W W' (fun j => j = tb)) (hT : TP W' tb) : R2 B w0 W' k s r s2 r2 M K xv rb tb pa pr := by
  obtain ⟨ao, c', l, i', h1, _⟩ := h.rp.2.2
  have t : Tame B false W W' (fun j => j = tb) := Tame.ofKept hk
  have far : ∀ j, j = tb → k.Far B W j := fun j e => by subst e; exact h.ru.farT h1 h.hb (by decide) (by decide) (by decide) (by decide) (by decide) (by decide) (by decide) (by decide) (by decide) (by decide)
  exact ⟨h.ru.aside t far, h.st.tame t (fun j q => (far j q).2.1), ⟨h.rp.1.kept hk h.rp.2.1, h.rp.2.1, hT⟩, h.hb, h.pre.keep t (fun j e => .inr (by subst e; exact h1.notT (by decide)))⟩
end
theorem RU.cs {w0 W : World} {k : RC} {s r s2 r2 : List Int} {M K : Nat} {xv : Value} (h : RU B w0 W k s r s2 r2 M K xv) {i : Nat} (hi : i < s2.length) : W.cell? ⟨k.msb, i, none⟩ = some (.int .i64 (s2.getD i 0)) := by
  rw [h.ms.cell]
  have := ic_get s2 i hi
  simpa using this
theorem RU.cr {w0 W : World} {k : RC} {s r s2 r2 : List Int} {M K : Nat} {xv : Value} (h : RU B w0 W k s r s2 r2 M K xv) {i : Nat} (hi : i < r2.length) : W.cell? ⟨k.mrb, i, none⟩ = some (.int .i64 (r2.getD i 0)) := by
  rw [h.mr.cell]
  have := ic_get r2 i hi
  simpa using this
/-- A block of the operation's own stands behind a call of the step. -/
theorem RU.op {w0 W W' : World} {k : RC} {s r s2 r2 : List Int} {M K : Nat} {xv : Value} (h : RU B w0 W k s r s2 r2 M K xv) {pb : Nat} {xs : Array Value} (hB : Blk W pb 36 xs) (t : Tame B true W W' k.c.own) : Blk W' pb 36 xs :=
  hB.tame t (fun q => h.notOwn (T := 36) (by decide) (by decide) (by decide) pb q _ hB) (hardT _ (by decide) (by decide) (by decide))
theorem RU.op3 {w0 W : World} {k : RC} {s r s2 r2 : List Int} {M K : Nat} {xv : Value} (h : RU B w0 W k s r s2 r2 M K xv) {pb : Nat} {xs : Array Value} (hB : Blk W pb 36 xs) : ¬ pb = k.msb ∧ ¬ pb = k.mrb ∧ ¬ pb = k.wtb :=
  ⟨fun e => hB.notT (T' := 3) (by decide) _ (by rw [e]; exact h.ms), fun e => hB.notT (T' := 3) (by decide) _ (by rw [e]; exact h.mr), fun e => by obtain ⟨cur, q, _⟩ := h.wt'; exact hB.notT (T' := 43) (by decide) _ (by rw [e]; exact q)⟩
/-- The log and the list that is hoped for are looked at. -/
theorem RU.look {w0 W : World} {k : RC} {s r s2 r2 : List Int} {M K : Nat} {xa : Option Addr} {xn xc : Nat} (h : RU B w0 W k s r s2 r2 M K (.slice xa xn xc)) (hM : M ≤ 1000000) : ∃ la ln lc, W.cell? ⟨k.c.lb, 0, none⟩ = some (.slice la ln lc) ∧ Calls Tryf.prog 19 #[.slice la ln lc, .slice xa xn xc] W (Someb W) := by
  obtain ⟨m, hm, hL⟩ := h.st.lg
  obtain ⟨la, lc, hB, hI⟩ := hL.form
  obtain ⟨x, hx, hX⟩ := h.xp
  obtain ⟨ya, yc, e⟩ := hX.form
  have ex : xn = x := by injection e
  subst ex
  have h1 : m ≤ 1000000 := Nat.le_trans hm hM
  have h2 : xn ≤ 1000000 := Nat.le_trans hx hM
  exact ⟨la, m, lc, hB.cell 0, sameTakes_any W la xa m xn lc xc hI.iv hX.iv h1 h2⟩
theorem RU.zz {w0 W : World} {k : RC} {s r s2 r2 : List Int} {M K : Nat} {xv : Value} (h : RU B w0 W k s r s2 r2 M K xv) : Calls Tryf.prog 17 #[.pointer (some ⟨k.c.sb, 0, none⟩)] W fun e w' => e = .returned (.slice k.c.so k.c.ids.length k.c.sc) ∧ w' = W := by
  obtain ⟨wv, h1, _⟩ := h.st.sb
  exact zzsent_any W k.c.sb k.c.nb k.c.lb k.c.limit k.c.so k.c.ro k.c.ids.length k.c.ids.length k.c.sc k.c.rc wv h1
theorem RU.same {w0 W : World} {k : RC} {s r s2 r2 : List Int} {M K : Nat} {xv : Value} (h : RU B w0 W k s r s2 r2 M K xv) : Calls Tryf.prog 16 #[.slice k.c.so k.c.ids.length k.c.sc, .slice (some ⟨k.msb, 0, none⟩) k.c.ids.length k.c.ids.length] W (Someb W) := by
  have h1 : IV W k.c.so k.c.ids.length 1 := by rw [← h.st.sl]; exact h.st.si.iv
  have h2 : IV W (some ⟨k.msb, 0, none⟩) k.c.ids.length 1 := by rw [← h.l2.1]; exact IWT.iv (.inr ⟨k.msb, rfl, h.ms⟩)
  have := h.st.le
  exact sameInts_any W _ _ _ _ _ _ h1 h2 (by omega) (by omega)
/-- One of the model's waiting lists. -/
def WJ (B : Nat) (W : World) (k : RC) (j q : Nat) (v : Value) (m : Nat) : Prop := (∃ cur, Blk W k.wtb 43 cur ∧ cur[j]? = some v) ∧ IR B 47 3 W v m ∧ m ≤ q
theorem RU.wj {w0 W : World} {k : RC} {s r s2 r2 : List Int} {M K : Nat} {xv : Value} (h : RU B w0 W k s r s2 r2 M K xv) {j : Nat} (hj : j < k.c.ids.length) : ∃ ao m kc, WJ B W k j K (.slice ao m kc) m := by
  obtain ⟨cur, hB, _, hall⟩ := h.wt'
  obtain ⟨v, m, hv, hI, hm⟩ := hall j hj
  obtain ⟨ao, kc, rfl⟩ := hI.form
  exact ⟨ao, m, kc, ⟨cur, hB, hv⟩, hI, hm⟩
theorem WJ.step {w0 W W' : World} {k : RC} {s r s2 r2 : List Int} {M K : Nat} {xv : Value} {j q m : Nat} {v : Value} (g : WJ B W k j q v m) (h : RU B w0 W k s r s2 r2 M K xv) (t : Tame B true W W' k.c.own) : WJ B W' k j q v m := by
  obtain ⟨⟨cur, hB, hc⟩, hI, hm⟩ := g
  refine ⟨⟨cur, hB.tame t (fun o => ?_) (hardT _ (by decide) (by decide) (by decide)), hc⟩, hI.tame (.inr rfl) t (fun j o => h.notOwn (by decide) (by decide) (by decide) j o), hm⟩
  rcases h.kinds o with ⟨xs, e⟩ | ⟨e, _⟩ | ⟨⟨xs, e⟩, _⟩
  · exact hB.notT (T' := 70) (by decide) _ e
  · exact h.ok.wl e
  · exact hB.notT (T' := 3) (by decide) _ e
theorem WJ.one {W : World} {k : RC} {j q m : Nat} {v : Value} {pb i : Nat} {z : Value} {xs : Array Value} (g : WJ B W k j q v m) (h : Blk W pb 3 xs) : WJ B (W.setCell ⟨pb, i, none⟩ z) k j q v m := by
  obtain ⟨⟨cur, hB, hc⟩, hI, hm⟩ := g
  exact ⟨⟨cur, hB.kept (Kept.one _ _ _ _) (fun e => hB.notT (T' := 3) (by decide) _ (by rw [e]; exact h)), hc⟩, hI.kept (Kept.one _ _ _ _) (fun j e => by subst e; exact h.notT (by decide)), hm⟩
theorem WJ.quiet {W W' : World} {k : RC} {j q m : Nat} {v : Value} (g : WJ B W k j q v m) (t : Tame B false W W' (fun _ => False)) : WJ B W' k j q v m := by
  obtain ⟨⟨cur, hB, hc⟩, hI, hm⟩ := g
  exact ⟨⟨cur, hB.tame t id (hardF _ (by decide) (by decide)), hc⟩, hI.tame (.inr rfl) t (fun _ q => q.elim), hm⟩
theorem WJ.cell {W : World} {k : RC} {j q m : Nat} {v : Value} (g : WJ B W k j q v m) : W.cell? ⟨k.wtb, j, none⟩ = some v := by
  obtain ⟨⟨cur, hB, hc⟩, _⟩ := g
  rw [hB.cell, hc]
theorem step_wait {ops : Array Oper} {o : Oper} {a : Act} {w w0 v0 : World} {K : Act → World → Prop} {Q : Exit → Act → World → Prop} {E : Prop} {ao : Option Addr} {m kc : Nat} {x y z : Int} {k : RC} {s r s2 r2 : List Int} {M KK j qq pb : Nat} {xv : Value} {ps : Array Value}
    (hgd : o.guard = none) (p q : Operand)
    (ho : o.op = .call { callee := .builtin .append, args := #[p, q], argTypes := #[43, 43] })
    (hv : a.eval p = .slice ao m kc) (hx : a.eval q = .slice (some ⟨w0.heap.size, 0, none⟩) 1 1) (hw : w = w0.alloc (.cells #[.int .i64 x, .int .i64 y, .int .i64 z] 47))
    (HJ : Hid (WJ B w0 k j qq (.slice ao m kc) m)) (hm : m ≤ 900000) (HU : Hid (RU B v0 w0 k s r s2 r2 M KK xv)) (HB : Hid (Blk w0 pb 36 ps))
    (h : ∀ ao1 k1 w', Hid (IR B 47 3 w' (.slice ao1 (m + 1) k1) (m + 1)) → Hid (RU B v0 w' k s r s2 r2 M KK xv) → Hid (Blk w' pb 36 ps) → (∀ i, w'.frozen? ⟨k.wtb, i, none⟩ = false) → w'.cell? ⟨k.wtb, j, none⟩ = some (.slice ao m kc) → K (a.put o.dst (.slice ao1 (m + 1) k1)) w') :
    if Region.wanted o (yielded ops a.tmps) = true then Oper.wp Tryf.prog o a w K Q else E := by
  subst hw
  refine step_app (t := 43) hgd p q ho _ _ hv hx (run_log w0 _ _ m x y z HJ.out.2.1 HU.out.st.bw hm) ?_
  intro v1 w2 h1
  obtain ⟨ao1, k1, rfl⟩ := h1.1.form
  have hJ2 := HJ.out.quiet h1.2
  obtain ⟨⟨cur, hB2, _⟩, _⟩ := hJ2
  exact h ao1 k1 w2 h1.1 (HU.out.quiet h1.2) (HB.out.tame h1.2 id (hardF _ (by decide) (by decide))) hB2.frozen (HJ.out.quiet h1.2).cell
theorem RU.xi {w0 W : World} {k : RC} {s r s2 r2 : List Int} {M K : Nat} {xa : Option Addr} {xn xc : Nat} (h : RU B w0 W k s r s2 r2 M K (.slice xa xn xc)) : xn ≤ M ∧ IR B 47 3 W (.slice xa xn xc) xn := by
  obtain ⟨x, hx, hX⟩ := h.xp
  obtain ⟨ya, yc, e⟩ := hX.form
  have ex : xn = x := by injection e
  subst ex
  exact ⟨hx, hX⟩
/-- The tallies are copied. -/
theorem run_pre {w0 W : World} {k : RC} {s r s2 r2 : List Int} {M K : Nat} {xv : Value} (h : RU B w0 W k s r s2 r2 M K xv) (ty : TypeId) (n : Nat) (hn : n = k.c.ids.length) : ∃ v' w', (Builtin.append_ #[29, 29] ty #[.slice none 0 0, .slice (some ⟨k.mrb, 0, none⟩) n n]).run Tryf.prog W = .ok v' w' ∧ (∃ pa pc, v' = .slice pa n pc ∧ PR w' k pa r2) ∧ Tame B false W w' (fun _ => False) := by
  obtain ⟨i, hi, hz, h1, h2⟩ := info_at info3
  have hl : r2.length = n := by rw [hn]; exact h.l2.2
  have h64 : n ≤ 64 := by rw [hn]; exact h.st.le
  have hs : Src Tryf.prog 1 29 (.slice (some ⟨k.mrb, 0, none⟩) n n) n (ic r2) W := Src.ofSlice W Tryf.underlying29 _ n n _ (by rw [ic_length, hl, Nat.mul_one]) (fun j u hu => by rw [Addr.add_lit, Nat.zero_add, h.mr.cell]; simpa using hu) (fun u hu => by obtain ⟨_, _, rfl⟩ := List.mem_map.1 hu; rfl)
  obtain ⟨v', w', hr, ho, hx, _, _⟩ := run_append_any (P := Tryf.prog) W W.heap.size 29 29 ty 3 i _ 1 8 Tryf.underlying29 hi hz h1 h2 rfl (.slice none 0 0) 0 [] (World.ownsRow_nil W W.heap.size 3 1) _ n (ic r2) hs (by simp only [maxLen]; omega) (by omega) (Nat.le_refl _)
  have hk : Kept W w' (fun _ => False) := (Kept.ofExt hx).mono (fun i _ q => by cases q)
  refine ⟨v', w', hr, ?_, Tame.ofKept hk⟩
  rw [Nat.zero_add, List.nil_append] at ho
  rcases ho.2 with ⟨e, h0⟩ | ⟨g, cap, cur, e, hbg, hg, hnc, hcm, hcs, htake⟩
  · refine ⟨none, 0, by rw [e, h0], .inl (List.eq_nil_of_length_eq_zero (by omega))⟩
  · refine ⟨_, _, e, .inr ⟨g, cur, rfl, hg, ?_, fun q => ?_, fun q => ?_, fun q => ?_⟩⟩
    · rw [hl]
      rw [Nat.mul_one] at htake
      exact htake
    · have := h.ownLt q; omega
    · have := h.ms.lt; omega
    · have := h.mr.lt; omega
def RC.fin (k : RC) (a b d e : Value) : RC := { k with f3 := a, f4 := b, f5 := d, f6 := e }
/-- A fresh generator over the tape. -/
theorem RU.rng {w0 W : World} {k : RC} {s r s2 r2 : List Int} {M K : Nat} {xv : Value} (h : RU B w0 W k s r s2 r2 M K xv) (l dc : Nat) (hl : l = k.tp.length) (h64 : l ≤ 64) (hd : ∀ x ∈ k.tp, Drawn x) :
    RP ((W.alloc (.cells #[.slice k.ta l dc, .int .i64 0] 62)).alloc (.cells #[.iface 60 (.pointer (some ⟨W.heap.size, 0, none⟩))] 82)) (W.heap.size + 1) W.heap.size ∧ Blk ((W.alloc (.cells #[.slice k.ta l dc, .int .i64 0] 62)).alloc (.cells #[.iface 60 (.pointer (some ⟨W.heap.size, 0, none⟩))] 82)) W.heap.size 62 #[.slice k.ta l dc, .int .i64 0] ∧ B ≤ W.heap.size ∧ Tame B false W ((W.alloc (.cells #[.slice k.ta l dc, .int .i64 0] 62)).alloc (.cells #[.iface 60 (.pointer (some ⟨W.heap.size, 0, none⟩))] 82)) (fun _ => False) := by
  have t : Tame B false W ((W.alloc (.cells #[.slice k.ta l dc, .int .i64 0] 62)).alloc (.cells #[.iface 60 (.pointer (some ⟨W.heap.size, 0, none⟩))] 82)) (fun _ => False) := ((Tame.refl _ _ _).alloc _).alloc _
  have hB : Blk ((W.alloc (.cells #[.slice k.ta l dc, .int .i64 0] 62)).alloc (.cells #[.iface 60 (.pointer (some ⟨W.heap.size, 0, none⟩))] 82)) W.heap.size 62 #[.slice k.ta l dc, .int .i64 0] := (Blk.new W 62 _).alloc _
  refine ⟨⟨Blk.new' (by simp) 82 _, by omega, k.ta, dc, k.tp, 0, by rw [← hl]; exact hB, h.tp.tame t (fun _ q => q.elim), ?_, by omega, hd⟩, hB, h.st.bw, t⟩
  rcases Nat.eq_zero_or_pos k.tp.length with e | e
  · exact .inl (List.eq_nil_of_length_eq_zero e)
  · exact .inr e
/-- The row of places. -/
structure IX (B : Nat) (W : World) (k : RC) (ib wm : Nat) (xs : List Int) (pa : Option Addr) (pr : List Int) : Prop where
  blk : Blk W ib 3 (ic xs).toArray
  len : xs.length = wm
  rng : ∀ j, j < wm → 0 ≤ xs.getD j 0 ∧ xs.getD j 0 < wm
  new : B ≤ ib
  own : ¬ k.c.own ib
  ms : ib ≠ k.msb
  mr : ib ≠ k.mrb
  pre : pr = [] ∨ pa ≠ some ⟨ib, 0, none⟩
/-- The run at a list that does not fit. -/
structure R3 (B : Nat) (w0 W : World) (k : RC) (s r s2 r2 : List Int) (M K : Nat) (xv : Value) (rb tb : Nat) (pa : Option Addr) (pr : List Int) (ib wm : Nat) (xs : List Int) (wv : Value) : Prop where
  r2 : R2 B w0 W k s r s2 r2 M K xv rb tb pa pr
  ix : IX B W k ib wm xs pa pr
  wj : IR B 47 3 W wv wm
section
variable {w0 W W' : World} {k : RC} {s r s2 r2 : List Int} {M K rb tb ib wm : Nat} {xv wv : Value} {pa : Option Addr} {pr xs : List Int}
theorem R3.start (h : R2 B w0 W k s r s2 r2 M K xv rb tb pa pr) (hw : IR B 47 3 W wv wm) (h0 : 0 < wm) : R3 B w0 (W.alloc (.cells (Array.replicate wm (.int .i64 0)) 3)) k s r s2 r2 M K xv rb tb pa pr W.heap.size wm (List.replicate wm 0) wv := by
  have t : Tame B false W (W.alloc (.cells (Array.replicate wm (.int .i64 0)) 3)) (fun _ => False) := (Tame.refl _ _ _).alloc _
  refine ⟨h.quiet t, ⟨by rw [ic_rep]; exact Blk.new W 3 _, by simp, fun j hj => ?_, h.ru.st.bw, fun q => ?_, fun q => ?_, fun q => ?_, h.pre.ne _ (.inr (.inr (.inr (Nat.le_refl _))))⟩, hw.tame (.inr rfl) t (fun _ q => q.elim)⟩
  · have : (List.replicate wm (0 : Int)).getD j 0 = 0 := by simp [List.getD, hj]
    rw [this]; omega
  · have := h.ru.ownLt q; omega
  · have := h.ru.ms.lt; omega
  · have := h.ru.mr.lt; omega
theorem R3.set (h : R3 B w0 W k s r s2 r2 M K xv rb tb pa pr ib wm xs wv) (i : Nat) (z : Int) (h1 : 0 ≤ z) (h2 : z < wm) : R3 B w0 (W.setCell ⟨ib, i, none⟩ (.int .i64 z)) k s r s2 r2 M K xv rb tb pa pr ib wm (xs.set i z) wv := by
  have t : Tame B false W (W.setCell ⟨ib, i, none⟩ (.int .i64 z)) (fun j => j = ib) := Tame.ofKept (Kept.one _ _ _ _)
  have nt : ∀ T, (3 : TypeId) ≠ T → ∀ j, j = ib → NotT W j T := fun T hT j e => by subst e; exact h.ix.blk.notT hT
  refine ⟨h.r2.aside t (fun j e => ⟨by rw [e]; exact h.r2.ru.far3' h.ix.blk h.ix.new h.ix.own h.ix.ms h.ix.mr, nt _ (by decide) j e, nt _ (by decide) j e, .inl (by rw [e]; exact h.ix.pre)⟩), ⟨IWT.set h.ix.blk i z, by simpa using h.ix.len, fun j hj => ?_, h.ix.new, h.ix.own, h.ix.ms, h.ix.mr, h.ix.pre⟩, h.wj.tame (.inr rfl) t (nt _ (by decide))⟩
  have h3 := h.ix.rng j hj
  by_cases e : i = j
  · subst e
    have : (xs.set i z).getD i 0 = z := by
      rw [List.getD, List.getElem?_set_self (by rw [h.ix.len]; exact hj)]; rfl
    rw [this]; exact ⟨h1, h2⟩
  · have : (xs.set i z).getD j 0 = xs.getD j 0 := by
      rw [List.getD, List.getD, List.getElem?_set_ne e]
    rw [this]; exact h3
theorem R3.word (h : R3 B w0 W k s r s2 r2 M K xv rb tb pa pr ib wm xs wv) (hk : Kept W W' (fun j => j = tb)) (hT : TP W' tb) : R3 B w0 W' k s r s2 r2 M K xv rb tb pa pr ib wm xs wv := by
  obtain ⟨ao, c', l, i', h1, _⟩ := h.r2.rp.2.2
  exact ⟨h.r2.word hk hT, ⟨h.ix.blk.kept hk (fun e => h.ix.blk.notT (T' := 62) (by decide) _ (by rw [e]; exact h1)), h.ix.len, h.ix.rng, h.ix.new, h.ix.own, h.ix.ms, h.ix.mr, h.ix.pre⟩, h.wj.kept hk (fun j e => by subst e; exact h1.notT (by decide))⟩
theorem R3.exp {M' x : Nat} {xv' : Value} (h : R3 B w0 W k s r s2 r2 M K xv rb tb pa pr ib wm xs wv) (t : Tame B false W W' (fun _ => False)) (hI : IR B 47 3 W' xv' x) (hM : M ≤ M') (hx : x ≤ M') : R3 B w0 W' k s r s2 r2 M' K xv' rb tb pa pr ib wm xs wv :=
  ⟨h.r2.exp t hI hM hx, ⟨h.ix.blk.tame t id (hardF _ (by decide) (by decide)), h.ix.len, h.ix.rng, h.ix.new, h.ix.own, h.ix.ms, h.ix.mr, h.ix.pre⟩, h.wj.tame (.inr rfl) t (fun _ q => q.elim)⟩
theorem R3.cell (h : R3 B w0 W k s r s2 r2 M K xv rb tb pa pr ib wm xs wv) {j : Nat} (hj : j < wm) : ∃ y : Nat, W.cell? ⟨ib, j, none⟩ = some (.int .i64 (y : Int)) ∧ y < wm := by
  have h1 := h.ix.rng j hj
  refine ⟨(xs.getD j 0).toNat, ?_, by omega⟩
  rw [h.ix.blk.cell]
  have := ic_get xs j (by rw [h.ix.len]; exact hj)
  rw [Int.toNat_of_nonneg h1.1]
  simpa using this
end
/-- The waiting lists behind the end. -/
theorem ST.ws {w : World} {c : SC} {s r : List Int} {M : Nat} (h : ST B w c s r M 0) : ∃ va vn vc, Calls Tryf.prog 23 #[.pointer (some ⟨c.sb, 0, none⟩)] w (fun e w' => e = .returned (.slice va vn vc) ∧ w' = w) ∧ vn ≤ 64 ∧ ∀ j, j < vn → ∃ g ao kc, va = some ⟨g, 0, none⟩ ∧ w.cell? ⟨g, j, none⟩ = some (.slice ao 0 kc) := by
  obtain ⟨wv, hS, hW⟩ := h.sb
  rcases hW with rfl | ⟨g, cap, cur, rfl, hcap, hB, hsz, hall⟩
  · exact ⟨none, 0, 0, zzwait_any w c.sb c.nb c.lb c.limit none 0 0 _ _ hS, by omega, fun j hj => absurd hj (Nat.not_lt_zero _)⟩
  · refine ⟨some ⟨g, 0, none⟩, c.ids.length, cap, zzwait_any w c.sb c.nb c.lb c.limit _ _ _ _ _ hS, h.le, fun j hj => ?_⟩
    obtain ⟨v, m, hv, hI, hm⟩ := hall j hj
    obtain ⟨ao, kc, rfl⟩ := hI.form
    obtain rfl : m = 0 := by omega
    exact ⟨g, ao, kc, rfl, by rw [hB.cell]; exact hv⟩
end Go.Proofs.Qxb6003861aFmt
