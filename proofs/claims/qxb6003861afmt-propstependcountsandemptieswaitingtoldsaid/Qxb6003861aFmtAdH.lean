import Derived.Test.Qxb6003861aFmtAdG
namespace Go.Proofs.Qxb6003861aFmt
open Go.RowKit
set_option linter.unusedVariables false
set_option linter.unusedSimpArgs false
variable {B : Nat}

/-- A row of integers of element type T, whole. -/
def IWT (T : TypeId) (w : World) (ao : Option Addr) (l : List Int) : Prop := l = [] ∨ ∃ g, ao = some ⟨g, 0, none⟩ ∧ Blk w g T (ic l).toArray
theorem IWT.view {T : TypeId} {w : World} {ao : Option Addr} {l : List Int} (h : IWT T w ao l) : View w ao (ic l) := by
  rcases h with rfl | ⟨g, rfl, hB⟩
  · exact .inl rfl
  · exact hB.view _ rfl
theorem IWT.tame {T : TypeId} {S : Bool} {X : Nat → Prop} {w w' : World} {ao : Option Addr} {l : List Int} (h : IWT T w ao l) (k : Tame B S w w' X) (hT : Hard S T) (hX : ∀ g, X g → ao ≠ some ⟨g, 0, none⟩ ∨ NotT w g T) : IWT T w' ao l := by
  rcases h with h | ⟨g, e, hB⟩
  · exact .inl h
  · exact .inr ⟨g, e, hB.tame k (fun q => (hX g q).elim (fun h => h e) (fun h => h _ hB)) hT⟩
theorem ic_set (l : List Int) (i : Nat) (z : Int) : ic (l.set i z) = (ic l).set i (.int .i64 z) := by simp [ic, List.map_set]
theorem IWT.set {T : TypeId} {w : World} {g : Nat} {l : List Int} (h : Blk w g T (ic l).toArray) (i : Nat) (z : Int) : Blk (w.setCell ⟨g, i, none⟩ (.int .i64 z)) g T (ic (l.set i z)).toArray := by
  have := h.set i (.int .i64 z)
  rw [ic_set]
  simpa using this
/-- The lists of waiting messages. -/
def WT (B : Nat) (T E : TypeId) (sz : Nat) (w : World) (wv : Value) (n K : Nat) : Prop := wv = .slice none 0 0 ∨ ∃ g cap cur, wv = .slice (some ⟨g, 0, none⟩) n cap ∧ (n ≤ cap ∧ B ≤ g) ∧ Blk w g T cur ∧ n ≤ cur.size ∧ ∀ i, i < n → ∃ v m, cur[i]? = some v ∧ IR B E sz w v m ∧ m ≤ K
theorem WT.mono {T E : TypeId} {sz : Nat} {w : World} {wv : Value} {n K K' : Nat} (h : WT B T E sz w wv n K) (hK : K ≤ K') : WT B T E sz w wv n K' := by
  rcases h with h | ⟨g, cap, cur, h1, h2, h3, h4, h5⟩
  · exact .inl h
  · exact .inr ⟨g, cap, cur, h1, h2, h3, h4, fun i hi => by obtain ⟨v, m, a, b, c⟩ := h5 i hi; exact ⟨v, m, a, b, by omega⟩⟩
theorem WT.tame {T E : TypeId} {sz : Nat} {S : Bool} {X : Nat → Prop} {w w' : World} {wv : Value} {n K : Nat} (h : WT B T E sz w wv n K) (k : Tame B S w w' X) (hE : E = 76 ∨ E = 47) (hT : Hard S T) (hX : ∀ g, X g → NotT w g T ∨ wv.ownBlock ≠ some g) (hX2 : ∀ g, X g → NotT w g E) : WT B T E sz w' wv n K := by
  rcases h with h | ⟨g, cap, cur, h1, h2, h3, h4, h5⟩
  · exact .inl h
  · refine .inr ⟨g, cap, cur, h1, h2, h3.tame k (fun q => ?_) hT, h4, fun i hi => ?_⟩
    · rcases hX g q with hh | hh
      · exact hh cur h3
      · exact hh (by rw [h1]; rfl)
    · obtain ⟨v, m, a, b, c⟩ := h5 i hi
      exact ⟨v, m, a, b.tame hE k hX2, c⟩
/-- What does not change in a step. -/
structure SC where
  sb : Nat
  nb : Nat
  lb : Nat
  limit : Int
  cao : Option Addr
  ccap : Nat
  ids : List Int
  so : Option Addr
  ro : Option Addr
  sc : Nat
  rc : Nat
/-- The step at work. -/
structure ST (B : Nat) (w : World) (c : SC) (s r : List Int) (M K : Nat) : Prop where
  sb : ∃ wv, SB w c.sb c.nb c.lb c.limit (.slice c.so c.ids.length c.sc) (.slice c.ro c.ids.length c.rc) wv ∧ WT B 66 76 2 w wv c.ids.length K
  nb : Blk w c.nb 42 #[.slice c.cao c.ids.length c.ccap]
  nv : IWT 2 w c.cao c.ids
  le : c.ids.length ≤ 64
  lg : ∃ m, m ≤ M ∧ Lg B w c.lb m
  si : IWT 3 w c.so s
  ri : IWT 3 w c.ro r
  sl : s.length = c.ids.length
  rl : r.length = c.ids.length
  ne : (∀ g, c.so = some ⟨g, 0, none⟩ → c.ro ≠ some ⟨g, 0, none⟩) ∧ B ≤ c.lb
theorem ST.nd {w : World} {c : SC} {s r : List Int} {M K : Nat} (h : ST B w c s r M K) : ND w c.nb c.cao c.ccap c.ids := ⟨h.nb, h.nv.view, h.le⟩
/-- The blocks that a step may write. -/
def SC.own (c : SC) (k : Nat) : Prop := k = c.sb ∨ k = c.lb ∨ c.so = some ⟨k, 0, none⟩ ∨ c.ro = some ⟨k, 0, none⟩
def SC.Far (c : SC) (w : World) (g : Nat) : Prop := g ≠ c.sb ∧ g ≠ c.nb ∧ g ≠ c.lb ∧ c.so ≠ some ⟨g, 0, none⟩ ∧ c.ro ≠ some ⟨g, 0, none⟩ ∧ NotT w g 2 ∧ NotT w g 66 ∧ NotT w g 76 ∧ NotT w g 47
theorem hardF (T : TypeId) (h1 : T ≠ 76) (h2 : T ≠ 47) : Hard false T := ⟨h1, h2, fun h => by cases h⟩
theorem hardT (T : TypeId) (h1 : T ≠ 76) (h2 : T ≠ 47) (h3 : T ≠ 66) : Hard true T := ⟨h1, h2, fun _ => h3⟩
theorem ST.tame {w w' : World} {c : SC} {s r : List Int} {M K : Nat} {X : Nat → Prop} (h : ST B w c s r M K) (k : Tame B false w w' X) (hX : ∀ g, X g → c.Far w g) : ST B w' c s r M K := by
  obtain ⟨wv, h1, h2⟩ := h.sb
  obtain ⟨m, hm, v, h3, h4⟩ := h.lg
  exact ⟨⟨wv, Blk.tame h1 k (fun q => (hX _ q).1 rfl) (hardF _ (by decide) (by decide)), h2.tame k (.inl rfl) (hardF _ (by decide) (by decide)) (fun g q => .inl (hX g q).2.2.2.2.2.2.1) (fun g q => (hX g q).2.2.2.2.2.2.2.1)⟩,
    h.nb.tame k (fun q => (hX _ q).2.1 rfl) (hardF _ (by decide) (by decide)), h.nv.tame k (hardF _ (by decide) (by decide)) (fun g q => .inr (hX g q).2.2.2.2.2.1), h.le,
    ⟨m, hm, v, h3.tame k (fun q => (hX _ q).2.2.1 rfl) (hardF _ (by decide) (by decide)), h4.tame (.inr rfl) k (fun g q => (hX g q).2.2.2.2.2.2.2.2)⟩,
    h.si.tame k (hardF _ (by decide) (by decide)) (fun g q => .inl (hX g q).2.2.2.1), h.ri.tame k (hardF _ (by decide) (by decide)) (fun g q => .inl (hX g q).2.2.2.2.1), h.sl, h.rl, h.ne⟩
theorem ST.bw {w : World} {c : SC} {s r : List Int} {M K : Nat} (h : ST B w c s r M K) : B ≤ w.heap.size := by
  obtain ⟨m, hm, v, h3, _⟩ := h.lg
  exact Nat.le_trans h.ne.2 (Nat.le_of_lt h3.lt)
def InR (z : Int) : Prop := -9223372036854775808 ≤ z ∧ z ≤ 9223372036854775807
/-- A tally that is counted on. -/
def up (l : List Int) (i : Nat) (d : Int) : List Int := l.set i (wrap64 (l.getD i 0 + d))
theorem up_length (l : List Int) (i : Nat) (d : Int) : (up l i d).length = l.length := by simp [up]
/-- One tally of a row is written. -/
theorem ST.sent {w : World} {c : SC} {s r : List Int} {M K : Nat} (h : ST B w c s r M K) {g : Nat} (hg : c.so = some ⟨g, 0, none⟩) (hB : Blk w g 3 (ic s).toArray) (i : Nat) (z : Int) : ST B (w.setCell ⟨g, i, none⟩ (.int .i64 z)) c (s.set i z) r M K ∧ Tame B true w (w.setCell ⟨g, i, none⟩ (.int .i64 z)) c.own := by
  have k : Tame B false w (w.setCell ⟨g, i, none⟩ (.int .i64 z)) (fun k => k = g) := Tame.ofKept (Kept.one _ _ _ _)
  have nt : ∀ T, (3 : TypeId) ≠ T → ∀ j, j = g → NotT w j T := fun T hT j e => by subst e; exact hB.notT hT
  obtain ⟨wv, h1, h2⟩ := h.sb
  obtain ⟨m, hm, v, h3, h4⟩ := h.lg
  have ne1 : ∀ {T b} {xs : Array Value}, Blk w b T xs → T ≠ 3 → ¬ b = g := fun hb hT e => by subst e; exact hb.notT hT _ hB
  refine ⟨⟨⟨wv, Blk.tame h1 k (ne1 h1 (by decide)) (hardF _ (by decide) (by decide)), h2.tame k (.inl rfl) (hardF _ (by decide) (by decide)) (fun j q => .inl (nt _ (by decide) j q)) (fun j q => nt _ (by decide) j q)⟩,
    h.nb.tame k (ne1 h.nb (by decide)) (hardF _ (by decide) (by decide)), h.nv.tame k (hardF _ (by decide) (by decide)) (fun j q => .inr (nt _ (by decide) j q)), h.le,
    ⟨m, hm, v, h3.tame k (ne1 h3 (by decide)) (hardF _ (by decide) (by decide)), h4.tame (.inr rfl) k (fun j q => nt _ (by decide) j q)⟩,
    .inr ⟨g, hg, IWT.set hB i z⟩, h.ri.tame k (hardF _ (by decide) (by decide)) (fun j q => .inl (by rw [q]; exact h.ne.1 g hg)), by simpa using h.sl, h.rl, h.ne⟩, (k.up true).mono fun j _ q => .inr (.inr (.inl (by rw [q]; exact hg)))⟩
theorem ST.recv {w : World} {c : SC} {s r : List Int} {M K : Nat} (h : ST B w c s r M K) {g : Nat} (hg : c.ro = some ⟨g, 0, none⟩) (hB : Blk w g 3 (ic r).toArray) (i : Nat) (z : Int) : ST B (w.setCell ⟨g, i, none⟩ (.int .i64 z)) c s (r.set i z) M K ∧ Tame B true w (w.setCell ⟨g, i, none⟩ (.int .i64 z)) c.own := by
  have k : Tame B false w (w.setCell ⟨g, i, none⟩ (.int .i64 z)) (fun k => k = g) := Tame.ofKept (Kept.one _ _ _ _)
  have nt : ∀ T, (3 : TypeId) ≠ T → ∀ j, j = g → NotT w j T := fun T hT j e => by subst e; exact hB.notT hT
  obtain ⟨wv, h1, h2⟩ := h.sb
  obtain ⟨m, hm, v, h3, h4⟩ := h.lg
  have ne1 : ∀ {T b} {xs : Array Value}, Blk w b T xs → T ≠ 3 → ¬ b = g := fun hb hT e => by subst e; exact hb.notT hT _ hB
  refine ⟨⟨⟨wv, Blk.tame h1 k (ne1 h1 (by decide)) (hardF _ (by decide) (by decide)), h2.tame k (.inl rfl) (hardF _ (by decide) (by decide)) (fun j q => .inl (nt _ (by decide) j q)) (fun j q => nt _ (by decide) j q)⟩,
    h.nb.tame k (ne1 h.nb (by decide)) (hardF _ (by decide) (by decide)), h.nv.tame k (hardF _ (by decide) (by decide)) (fun j q => .inr (nt _ (by decide) j q)), h.le,
    ⟨m, hm, v, h3.tame k (ne1 h3 (by decide)) (hardF _ (by decide) (by decide)), h4.tame (.inr rfl) k (fun j q => nt _ (by decide) j q)⟩,
    h.si.tame k (hardF _ (by decide) (by decide)) (fun j q => .inl (by rw [q]; exact fun e => h.ne.1 g e hg)), .inr ⟨g, hg, IWT.set hB i z⟩, h.sl, by simpa using h.rl, h.ne⟩, (k.up true).mono fun j _ q => .inr (.inr (.inr (by rw [q]; exact hg)))⟩
theorem ST.drewN {w : World} {c : SC} {s r : List Int} {M K : Nat} (h : ST B w c s r M K) (n : Nat) : ST B (w.drewN n) c s r M K := h.tame ((Tame.refl false w (fun _ => False)).drewN n) (fun _ q => q.elim)
theorem ST.drew {w : World} {c : SC} {s r : List Int} {M K : Nat} (h : ST B w c s r M K) : ST B w.drew c s r M K := h.tame (Tame.refl false w (fun _ => False)).drew (fun _ q => q.elim)
theorem ST.alloc {w : World} {c : SC} {s r : List Int} {M K : Nat} (h : ST B w c s r M K) (o : Obj) : ST B (w.alloc o) c s r M K := h.tame ((Tame.refl false w (fun _ => False)).alloc o) (fun _ q => q.elim)
/-- The cells of a row that is not empty. -/
theorem IWT.at {T : TypeId} {w : World} {ao : Option Addr} {l : List Int} (h : IWT T w ao l) {i : Nat} (hi : i < l.length) : ∃ g, ao = some ⟨g, 0, none⟩ ∧ Blk w g T (ic l).toArray ∧ w.cell? ⟨g, i, none⟩ = some (.int .i64 (l.getD i 0)) := by
  rcases h with rfl | ⟨g, e, hB⟩
  · simp at hi
  · refine ⟨g, e, hB, ?_⟩
    rw [hB.cell]
    have := ic_get l i hi
    simpa using this

theorem ST.s3 {w : World} {c : SC} {s r : List Int} {M K : Nat} (h : ST B w c s r M K) {i : Nat} (hi : i < c.ids.length) : ∃ g, c.so = some ⟨g, 0, none⟩ ∧ Blk w g 3 (ic s).toArray ∧ w.cell? ⟨g, i, none⟩ = some (.int .i64 (s.getD i 0)) ∧ w.cell? ⟨c.sb, 3, none⟩ = some (.slice (some ⟨g, 0, none⟩) c.ids.length c.sc) ∧ ∀ k, w.frozen? ⟨g, k, none⟩ = false := by
  obtain ⟨g, e, hB, hc⟩ := h.si.at (i := i) (by rw [h.sl]; exact hi)
  obtain ⟨wv, h1, _⟩ := h.sb
  exact ⟨g, e, hB, hc, by rw [← e]; exact Blk.cell h1 3, hB.frozen⟩
theorem ST.s4 {w : World} {c : SC} {s r : List Int} {M K : Nat} (h : ST B w c s r M K) {i : Nat} (hi : i < c.ids.length) : ∃ g, c.ro = some ⟨g, 0, none⟩ ∧ Blk w g 3 (ic r).toArray ∧ w.cell? ⟨g, i, none⟩ = some (.int .i64 (r.getD i 0)) ∧ w.cell? ⟨c.sb, 4, none⟩ = some (.slice (some ⟨g, 0, none⟩) c.ids.length c.rc) ∧ ∀ k, w.frozen? ⟨g, k, none⟩ = false := by
  obtain ⟨g, e, hB, hc⟩ := h.ri.at (i := i) (by rw [h.rl]; exact hi)
  obtain ⟨wv, h1, _⟩ := h.sb
  exact ⟨g, e, hB, hc, by rw [← e]; exact Blk.cell h1 4, hB.frozen⟩
theorem ST.place {w : World} {c : SC} {s r : List Int} {M K : Nat} (h : ST B w c s r M K) (v : Int) (i : Nat) (hi : pl c.ids v = some i) : Calls Tryf.prog 25 #[.pointer (some ⟨c.sb, 0, none⟩), .int .i64 v] w fun e w' => e = .returned (.int .i64 i) ∧ w' = w := by
  obtain ⟨wv, hSB, _⟩ := h.sb
  exact splace_any w c.sb c.nb c.lb c.limit _ _ wv c.cao c.ccap c.ids v i hSB h.nd hi
def Stepped (B : Nat) (w : World) (c : SC) (s r : List Int) (M K : Nat) (e : Ending) (w' : World) : Prop := e = .returned (.tuple #[]) ∧ ST B w' c s r M K ∧ Tame B true w w' c.own

set_option maxRecDepth 100000 in
set_option maxHeartbeats 2000000 in
theorem count_any (w : World) (c : SC) (s r : List Int) (M K : Nat) (v out inn : Int) (i : Nat) (h : ST B w c s r M K) (hi : pl c.ids v = some i) :
    Calls Tryf.prog 14 #[.pointer (some ⟨c.sb, 0, none⟩), .int .i64 v, .int .i64 out, .int .i64 inn] w (Stepped B w c (up s i out) (up r i inn) M K) := by
  have HS := Hid.mk'' h
  have HI := Hid.mk'' hi
  have hlt := pl_lt hi
  obtain ⟨gs, es, hBs, cs, c3, fs⟩ := h.s3 hlt
  obtain ⟨z, hz⟩ : ∃ z, z = s.getD i 0 := ⟨_, rfl⟩
  rw [← hz] at cs
  have h2 := h.sent es hBs i (wrap64 (z + out))
  obtain ⟨gr, er, hBr, cr, c4, fr⟩ := h2.1.s4 hlt
  obtain ⟨y, hy⟩ : ∃ y, y = r.getD i 0 := ⟨_, rfl⟩
  rw [← hy] at cr
  have h3 := h2.1.recv er hBr i (wrap64 (y + inn))
  have H3 : Hid (ST B _ c (up s i out) (up r i inn) M K ∧ Tame B true w _ c.own) := ⟨by unfold up; rw [← hz, ← hy]; exact h3.1, h2.2.trans h3.2⟩
  obtain ⟨N, hN⟩ : ∃ N, N = c.ids.length := ⟨_, rfl⟩
  rw [← hN] at c3 c4 hlt
  have i1 : (i : Int) < (N : Int) := by omega
  clear h h2 h3 hBs es hz hi hy er hBr hN
  go_enter Tryf.func14, Tryf.ntmps14
  go_wp2_with (go_at_call 25; refine (HS.out.place v i HI.out).mono ?_; rintro e w1 ⟨rfl, hw1⟩; subst hw1)
  refine bodyPost_end (v := .tuple #[]) (by simp [results, Tryf.results14, go_sem]) rfl ?_
  exact ⟨rfl, H3.out.1, H3.out.2⟩

end Go.Proofs.Qxb6003861aFmt
