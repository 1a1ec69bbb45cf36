import Derived.Test.Qxb6003713aFmtPaD
namespace Go.Proofs.Qxb6003713aFmt
open Go.RowKit
set_option linter.unusedVariables false
set_option linter.unusedSimpArgs false

/-! The greedy partition, with no Go in sight. F: the octets that each message bears besides. -/

/-- The octets of L[a:b]. -/
def cat (L : List (List UInt8)) (a b : Nat) : List UInt8 := ((L.drop a).take (b - a)).flatten
/-- The element at i. -/
def el (L : List (List UInt8)) (i : Nat) : List UInt8 := L.getD i []
/-- Where the message under way at i begins. -/
def lo (F : Nat) (L : List (List UInt8)) : Nat → Nat
  | 0 => 0
  | i + 1 => if 4069 < F + (cat L (lo F L i) i).length + (el L i).length then i else lo F L i
/-- The messages that are full at i. -/
def gr (F : Nat) (L : List (List UInt8)) : Nat → List (List UInt8)
  | 0 => []
  | i + 1 => if 4069 < F + (cat L (lo F L i) i).length + (el L i).length then gr F L i ++ [cat L (lo F L i) i] else gr F L i
/-- The message under way at i. -/
def cur (F : Nat) (L : List (List UInt8)) (i : Nat) : List UInt8 := cat L (lo F L i) i
/-- All messages. -/
def groups (F : Nat) (L : List (List UInt8)) : List (List UInt8) := if cur F L L.length = [] then gr F L L.length else gr F L L.length ++ [cur F L L.length]

theorem lo_le (F : Nat) (L : List (List UInt8)) : ∀ i, lo F L i ≤ i
  | 0 => Nat.le_refl _
  | i + 1 => by
    have := lo_le F L i
    unfold lo
    split <;> omega

theorem cat_self (L : List (List UInt8)) (a : Nat) : cat L a a = [] := by simp [cat]
theorem cat_succ (L : List (List UInt8)) {a b : Nat} (hab : a ≤ b) (hb : b < L.length) : cat L a (b + 1) = cat L a b ++ el L b := by
  unfold cat el
  rw [show b + 1 - a = (b - a) + 1 by omega, List.take_add_one, List.flatten_append, List.getElem?_drop, show a + (b - a) = b by omega]
  simp [List.getD, List.getElem?_eq_getElem hb]
theorem cur_stay {F : Nat} {L : List (List UInt8)} {i : Nat} (hi : i < L.length) (h : ¬ 4069 < F + (cur F L i).length + (el L i).length) : lo F L (i + 1) = lo F L i ∧ gr F L (i + 1) = gr F L i ∧ cur F L (i + 1) = cur F L i ++ el L i := by
  unfold cur at h
  have h1 : lo F L (i + 1) = lo F L i := by rw [lo, if_neg h]
  refine ⟨h1, by rw [gr, if_neg h], ?_⟩
  unfold cur
  rw [h1]
  exact cat_succ L (lo_le F L i) hi
theorem cur_flush {F : Nat} {L : List (List UInt8)} {i : Nat} (hi : i < L.length) (h : 4069 < F + (cur F L i).length + (el L i).length) : lo F L (i + 1) = i ∧ gr F L (i + 1) = gr F L i ++ [cur F L i] ∧ cur F L (i + 1) = el L i := by
  unfold cur at h
  have h1 : lo F L (i + 1) = i := by rw [lo, if_pos h]
  refine ⟨h1, by rw [gr, if_pos h]; rfl, ?_⟩
  unfold cur
  rw [h1, cat_succ L (Nat.le_refl _) hi, cat_self, List.nil_append]
theorem cur_zero (F : Nat) (L : List (List UInt8)) : cur F L 0 = [] := cat_self L 0
theorem cur_ne {F : Nat} {L : List (List UInt8)} (hne : ∀ i, i < L.length → el L i ≠ []) : ∀ i, 0 < i → i ≤ L.length → cur F L i ≠ []
  | 0, h, _ => by omega
  | i + 1, _, h => by
    have hi : i < L.length := by omega
    have := hne i hi
    by_cases hf : 4069 < F + (cur F L i).length + (el L i).length
    · rw [(cur_flush hi hf).2.2]; exact this
    · rw [(cur_stay hi hf).2.2]; simp [this]
theorem cur_fits {F : Nat} {L : List (List UInt8)} (hF : F ≤ 4069 ∨ L = []) (hfit : ∀ i, i < L.length → F + (el L i).length ≤ 4069) : ∀ i, i ≤ L.length → 0 < L.length → F + (cur F L i).length ≤ 4069
  | 0, _, hL => by
    rw [cur_zero]
    rcases hF with h | h
    · simpa using h
    · subst h; simp at hL
  | i + 1, h, hL => by
    have hi : i < L.length := by omega
    by_cases hf : 4069 < F + (cur F L i).length + (el L i).length
    · rw [(cur_flush hi hf).2.2]; exact hfit i hi
    · rw [(cur_stay hi hf).2.2, List.length_append]; omega

/-! What the walks share. -/

/-- A [][]byte that shows L. -/
def LView (w : World) (ao : Option Addr) (L : List (List UInt8)) : Prop :=
  ∃ xs : List Value, View w ao xs ∧ xs.length = L.length ∧ ∀ j, j < L.length → ∃ ba cb, xs[j]? = some (.slice ba (el L j).length cb) ∧ View w ba (bc (el L j)) ∧ (ba = none → el L j = [])

/-- The world in which the clones were made, and what they show. -/
structure Env (wl : World) (fl fy : Int) (cn : Nat) (fa : Option Addr) (cf : Nat) (fx : List UInt8) (aa : Option Addr) (ca : Nat) (av : List UInt8) (la : Option Addr) (L : List (List UInt8)) : Prop where
  hc : cn < 256
  hf0 : 0 ≤ fl
  hf : fl < 256
  hx : bits .or .u8 fl 16 = fy
  hx0 : 0 ≤ fy
  hx1 : fy < 256
  hfc : fx.length ≤ cf
  hcf : cf ≤ maxLen
  hfn : fa = none → fx.length = 0 ∧ cf = 0
  hVf : View wl fa (bc fx)
  hVa : View wl aa (bc av)
  hna : aa = none → av = []
  hpa : ∀ k o, aa = some ⟨k, o, none⟩ → k < wl.heap.size
  hg : wl.cell? ⟨5, cn, none⟩ = some (.int .u8 fl)
  h5 : 5 < wl.heap.size
  hL : LView wl la L
  ne : ∀ i, i < L.length → el L i ≠ []
  fit : ∀ i, i < L.length → (fx.length + av.length) + (el L i).length ≤ 4069

/-- The list's element at j, in a later world. -/
theorem LView.at {w : World} {ao : Option Addr} {L : List (List UInt8)} (h : LView w ao L) {j : Nat} (hj : j < L.length) :
    ∃ b off ba cb, ao = some ⟨b, off, none⟩ ∧ w.cell? ⟨b, off + j, none⟩ = some (.slice ba (el L j).length cb) ∧ View w ba (bc (el L j)) ∧ (ba = none → el L j = []) := by
  obtain ⟨xs, hV, hl, h⟩ := h
  obtain ⟨ba, cb, h1, h2, h3⟩ := h j hj
  obtain ⟨b, off, e, _, hc⟩ := hV.at (j := j) (by omega)
  exact ⟨b, off, ba, cb, e, hc j _ h1, h2, h3⟩

theorem View.lt {w : World} {ao : Option Addr} {l : List Value} (h : View w ao l) (hne : l ≠ []) : ∀ k o, ao = some ⟨k, o, none⟩ → k < w.heap.size := by
  rcases h with h | ⟨b, off, e, hlt, _⟩
  · exact absurd h hne
  · intro k o q
    rw [e] at q
    cases q
    exact hlt

/-- How one 'add' ends, at the list's element i. -/
def Added (fl : Int) (cn pb B : Nat) (fx av : List UInt8) (L : List (List UInt8)) (i : Nat) (c f a v : Value) (w : World) (e : Ending) (w' : World) : Prop :=
  ∃ m v', e = .returned (.tuple #[m, .nilIface]) ∧ PKb w' pb 132 c f a v' ∧ OB 5 B w' v' (cur (fx.length + av.length) L (i + 1)) ∧ Lies w v v' ∧ Kept w w' (fun k => k = pb ∨ v.ownBlock = some k) ∧
    ((m = .slice none 0 0 ∧ gr (fx.length + av.length) L (i + 1) = gr (fx.length + av.length) L i) ∨
     ((∃ g n k, m = .slice (some ⟨g, 0, none⟩) n k) ∧ OB 5 w.heap.size w' m (upd fl cn fx (cur (fx.length + av.length) L i) av) ∧ (∀ k, m.ownBlock = some k → v'.ownBlock ≠ some k) ∧ gr (fx.length + av.length) L (i + 1) = gr (fx.length + av.length) L i ++ [cur (fx.length + av.length) L i]))

theorem upd_ne (fl cn : Int) (fx nl av : List UInt8) : upd fl cn fx nl av ≠ [] := by
  intro h
  have := congrArg List.length h
  simp [upd, msg, mark] at this

theorem add_env {wl : World} {fl fy : Int} {cn : Nat} {fa : Option Addr} {cf : Nat} {fx : List UInt8} {aa : Option Addr} {ca : Nat} {av : List UInt8} {la : Option Addr} {L : List (List UInt8)} (E : Env wl fl fy cn fa cf fx aa ca av la L)
    (pb B i : Nat) (v : Value) (ba : Option Addr) (cb : Nat) (w : World) (hb : Below wl.heap.size wl w) (hpb : wl.heap.size ≤ pb) (hB : B ≤ w.heap.size) (hi : i < L.length)
    (hP : PKb w pb 132 (.int .u8 cn) (.slice fa fx.length cf) (.slice aa av.length ca) v) (hO : OB 5 B w v (cur (fx.length + av.length) L i)) (hvp : v.ownBlock ≠ some pb)
    (hV : View wl ba (bc (el L i))) (hnb : ba = none → el L i = []) :
    Calls Tryf.prog 41 #[.pointer (some ⟨pb, 0, none⟩), .slice ba (el L i).length cb] w (Added fl cn pb B fx av L i (.int .u8 cn) (.slice fa fx.length cf) (.slice aa av.length ca) v w) := by
  have hfit := E.fit i hi
  have hcur := cur_fits (F := fx.length + av.length) (L := L) (.inl (by omega)) E.fit i (by omega) (by omega)
  have hVw := hV.all hb
  have hnel : bc (el L i) ≠ [] := by
    have := E.ne i hi
    simpa [bc] using this
  by_cases hf : 4069 < (fx.length + av.length) + (cur (fx.length + av.length) L i).length + (el L i).length
  · obtain ⟨_, h2, h3⟩ := cur_flush hi hf
    refine (add_flush fl fy cn B pb fa cf fx aa ca av v (cur (fx.length + av.length) L i) ba cb (el L i) w E.hc E.hf0 E.hf E.hx E.hx0 E.hx1 hP E.hfc E.hcf E.hfn (E.hVf.all hb) (E.hVa.all hb) E.hna
      (fun k o h => by have := E.hpa k o h; omega) hO hB hvp (cell_later hb E.hg) (Nat.lt_of_lt_of_le E.h5 hpb) hVw hnb (fun k o h => by have := hV.lt hnel k o h; omega) (by omega) (by omega) (by omega)).mono ?_
    rintro e w' ⟨m, v', rfl, hm, hmv, hP', hO', hl, hk⟩
    refine ⟨m, v', rfl, hP', by rw [h3]; exact hO', hl, hk, .inr ⟨?_, hm, hmv, h2⟩⟩
    rcases hm.form with ⟨_, h⟩ | ⟨g, c, h, _⟩
    · exact absurd h (upd_ne _ _ _ _ _)
    · exact ⟨g, _, c, h⟩
  · obtain ⟨_, h2, h3⟩ := cur_stay hi hf
    refine (add_stay cn B pb fa cf fx aa ca av v (cur (fx.length + av.length) L i) ba cb (el L i) w hP hO hB hvp hVw hnb (by omega)).mono ?_
    rintro e w' ⟨v', rfl, hP', hO', hl, hk⟩
    exact ⟨_, v', rfl, hP', by rw [h3]; exact hO', hl, hk, .inl ⟨rfl, h2⟩⟩

end Go.Proofs.Qxb6003713aFmt
