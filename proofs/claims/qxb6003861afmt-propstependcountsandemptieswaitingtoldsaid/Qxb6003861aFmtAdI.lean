import Derived.Test.Qxb6003861aFmtAdH
import Derived.BigRegion
namespace Go.Proofs.Qxb6003861aFmt
open Go.RowKit
set_option linter.unusedVariables false
set_option linter.unusedSimpArgs false
variable {B : Nat}

theorem ST.mono {w : World} {c : SC} {s r : List Int} {M K M' K' : Nat} (h : ST B w c s r M K) (hM : M ≤ M') (hK : K ≤ K') : ST B w c s r M' K' := by
  obtain ⟨wv, h1, h2⟩ := h.sb
  obtain ⟨m, hm, h3⟩ := h.lg
  exact ⟨⟨wv, h1, h2.mono hK⟩, h.nb, h.nv, h.le, ⟨m, by omega, h3⟩, h.si, h.ri, h.sl, h.rl, h.ne⟩
theorem ST.logged {w w' : World} {c : SC} {s r : List Int} {M K m : Nat} (h : ST B w c s r M K) (hm : m ≤ M) (hL : Lg B w' c.lb (m + 1)) (k : Tame B false w w' (fun k => k = c.lb)) : ST B w' c s r (M + 1) K ∧ Tame B true w w' c.own := by
  obtain ⟨wv, h1, h2⟩ := h.sb
  obtain ⟨m0, hm0, v, h3, h4⟩ := h.lg
  have nt : ∀ T, (43 : TypeId) ≠ T → ∀ j, j = c.lb → NotT w j T := fun T hT j e => by subst e; exact h3.notT hT
  have ne1 : ∀ {T b} {xs : Array Value}, Blk w b T xs → T ≠ 43 → ¬ b = c.lb := fun hb hT e => by subst e; exact hb.notT hT _ h3
  exact ⟨⟨⟨wv, Blk.tame h1 k (ne1 h1 (by decide)) (hardF _ (by decide) (by decide)), h2.tame k (.inl rfl) (hardF _ (by decide) (by decide)) (fun j q => .inl (nt _ (by decide) j q)) (fun j q => nt _ (by decide) j q)⟩,
    h.nb.tame k (ne1 h.nb (by decide)) (hardF _ (by decide) (by decide)), h.nv.tame k (hardF _ (by decide) (by decide)) (fun j q => .inr (nt _ (by decide) j q)), h.le,
    ⟨m + 1, by omega, hL⟩,
    h.si.tame k (hardF _ (by decide) (by decide)) (fun j q => .inr (nt _ (by decide) j q)), h.ri.tame k (hardF _ (by decide) (by decide)) (fun j q => .inr (nt _ (by decide) j q)), h.sl, h.rl, h.ne⟩, (k.up true).mono fun j _ q => .inr (.inl q)⟩
theorem ST.take {w : World} {c : SC} {s r : List Int} {M K : Nat} (h : ST B w c s r M K) (hM : M ≤ 900000) (a b d : Int) : Calls Tryf.prog 12 #[.int .i64 a, .int .i64 b, .int .i64 d, .pointer (some ⟨c.lb, 0, none⟩)] w (Stepped B w c s r (M + 1) K) := by
  obtain ⟨m, hm, hL⟩ := h.lg
  refine (log_any c.lb m a b d w hL h.ne.2 (by omega)).mono ?_
  rintro e w' ⟨rfl, h1, h2⟩
  exact ⟨rfl, h.logged hm h1 h2⟩
theorem ST.c1 {w : World} {c : SC} {s r : List Int} {M K : Nat} (h : ST B w c s r M K) : w.cell? ⟨c.sb, 1, none⟩ = some (.func (.func 12) #[] #[.pointer (some ⟨c.lb, 0, none⟩)]) := by
  obtain ⟨wv, h1, _⟩ := h.sb
  exact Blk.cell h1 1
theorem ST.sne {w : World} {c : SC} {s r : List Int} {M K : Nat} (h : ST B w c s r M K) {g : Nat} {xs : Array Value} (hB : Blk w g 3 xs) : ¬ g = c.sb := by
  obtain ⟨wv, h1, _⟩ := h.sb
  exact fun e => hB.notT (T' := 70) (by decide) _ (by rw [e]; exact h1)

theorem ST.c2 {w : World} {c : SC} {s r : List Int} {M K : Nat} (h : ST B w c s r M K) : w.cell? ⟨c.sb, 2, none⟩ = some (.iface 40 (.pointer (some ⟨c.nb, 0, none⟩))) := by
  obtain ⟨wv, h1, _⟩ := h.sb
  exact Blk.cell h1 2
theorem ST.iplace {w : World} {c : SC} {s r : List Int} {M K : Nat} (h : ST B w c s r M K) (v : Int) (i : Nat) (hi : pl c.ids v = some i) : Calls Tryf.prog 52 #[.pointer (some ⟨c.nb, 0, none⟩), .int .i64 v] w fun e w' => e = .returned (.tuple #[.int .i64 i, .bool true]) ∧ w' = w := by
  refine (nplace_any w c.nb c.cao c.ccap c.ids v h.nd).mono ?_
  rintro e w1 ⟨rfl, rfl⟩
  rw [hi]
  exact ⟨rfl, rfl⟩
theorem ST.iplace0 {w : World} {c : SC} {s r : List Int} {M K : Nat} (h : ST B w c s r M K) (v : Int) (hi : pl c.ids v = none) : Calls Tryf.prog 52 #[.pointer (some ⟨c.nb, 0, none⟩), .int .i64 v] w fun e w' => e = .returned (.tuple #[.int .i64 0, .bool false]) ∧ w' = w := by
  refine (nplace_any w c.nb c.cao c.ccap c.ids v h.nd).mono ?_
  rintro e w1 ⟨rfl, rfl⟩
  rw [hi]
  exact ⟨rfl, rfl⟩

/-- The sender's tally, counted on ahead of the walk. -/
theorem ST.sup {w : World} {c : SC} {s r : List Int} {M K : Nat} (h : ST B w c s r M K) {i : Nat} (hi : i < c.ids.length) : ∃ gs z x, w.cell? ⟨c.sb, 3, none⟩ = some (.slice (some ⟨gs, 0, none⟩) c.ids.length c.sc) ∧ w.cell? ⟨gs, i, none⟩ = some (.int .i64 z) ∧ (∀ k, w.frozen? ⟨gs, k, none⟩ = false) ∧ ¬ gs = c.sb ∧ IntKind.i64.wrap (z + 1) = x ∧
    ST B (w.setCell ⟨gs, i, none⟩ (.int .i64 x)) c (up s i 1) r M K ∧ Tame B true w (w.setCell ⟨gs, i, none⟩ (.int .i64 x)) c.own := by
  obtain ⟨gs, es, hBs, cs, c3, fs⟩ := h.s3 hi
  have h2 := h.sent es hBs i (wrap64 (s.getD i 0 + 1))
  exact ⟨gs, _, _, c3, cs, fs, h.sne hBs, IntWalk.i64_left _, h2.1, h2.2⟩
theorem ST.rup {w : World} {c : SC} {s r : List Int} {M K : Nat} (h : ST B w c s r M K) {i : Nat} (hi : i < c.ids.length) : ∃ gs z x, w.cell? ⟨c.sb, 4, none⟩ = some (.slice (some ⟨gs, 0, none⟩) c.ids.length c.rc) ∧ w.cell? ⟨gs, i, none⟩ = some (.int .i64 z) ∧ (∀ k, w.frozen? ⟨gs, k, none⟩ = false) ∧ ¬ gs = c.sb ∧ wrap64 (z + 1) = x ∧
    ST B (w.setCell ⟨gs, i, none⟩ (.int .i64 x)) c s (up r i 1) M K ∧ Tame B true w (w.setCell ⟨gs, i, none⟩ (.int .i64 x)) c.own := by
  obtain ⟨gs, es, hBs, cs, c3, fs⟩ := h.s4 hi
  have h2 := h.recv es hBs i (wrap64 (r.getD i 0 + 1))
  exact ⟨gs, _, _, c3, cs, fs, h.sne hBs, rfl, h2.1, h2.2⟩

end Go.Proofs.Qxb6003861aFmt
