import Derived.Test.Qxb6003713aFmtPaN
namespace Go.Proofs.Qxb6003713aFmt
open Go.RowKit
set_option linter.unusedVariables false
set_option linter.unusedSimpArgs false

theorem gr_prefix (F : Nat) (L : List (List UInt8)) (i : Nat) : ∀ d, gr F L i <+: gr F L (i + d)
  | 0 => List.prefix_refl _
  | d + 1 => by
    have h := gr_prefix F L i d
    rw [show i + (d + 1) = (i + d) + 1 by omega, gr]
    split
    · exact h.trans (List.prefix_append _ _)
    · exact h
theorem groups_prefix (F : Nat) (L : List (List UInt8)) (i : Nat) (hi : i ≤ L.length) : gr F L i <+: groups F L := by
  have h := gr_prefix F L i (L.length - i)
  rw [show i + (L.length - i) = L.length by omega] at h
  unfold groups
  split
  · exact h
  · exact h.trans (List.prefix_append _ _)
theorem groups_at {F : Nat} {L : List (List UInt8)} {i : Nat} (hi : i < L.length) (hf : 4069 < F + (cur F L i).length + (el L i).length) : (groups F L)[(gr F L i).length]? = some (cur F L i) := by
  have h := groups_prefix F L (i + 1) (by omega)
  rw [(cur_flush hi hf).2.1] at h
  obtain ⟨t, ht⟩ := h
  rw [← ht, List.append_assoc, List.getElem?_append_right (Nat.le_refl _)]
  simp
theorem groups_last {F : Nat} {L : List (List UInt8)} (hne : cur F L L.length ≠ []) : (groups F L)[(gr F L L.length).length]? = some (cur F L L.length) ∧ (groups F L).length = (gr F L L.length).length + 1 := by
  unfold groups
  rw [if_neg hne]
  simp

/-- The messages, as they are read. -/
def MView (w : World) (ma : Option Addr) (Ms : List (List UInt8)) : Prop :=
  ∀ j, j < Ms.length → ∃ b off g c, ma = some ⟨b, off, none⟩ ∧ w.cell? ⟨b, off + j, none⟩ = some (.slice (some ⟨g, 0, none⟩) (el Ms j).length c) ∧ View w (some ⟨g, 0, none⟩) (bc (el Ms j))

theorem Mm.view {B : Nat} {w : World} {mv v : Value} {Ms : List (List UInt8)} (h : Mm B w mv v Ms) (hne : ∀ j, j < Ms.length → el Ms j ≠ []) : ∃ ma cm, mv = .slice ma Ms.length cm ∧ MView w ma Ms := by
  obtain ⟨xs, h1, h2, _⟩ := h
  have hxl : xs.length = Ms.length := by simpa using h1.1
  obtain ⟨ma, cm, hv, hV, _⟩ := View.own h1
  refine ⟨ma, cm, hv, fun j hj => ?_⟩
  obtain ⟨s, e, hs, _⟩ := h2 j hj
  obtain ⟨b, off, hma, _, hc⟩ := hV.at (j := j) (by omega)
  rcases hs.form with ⟨_, q⟩ | ⟨g, c, q, _⟩
  · exact absurd q (hne j hj)
  · subst q
    obtain ⟨a2, c2, hv2, hV2, _⟩ := View.own hs
    cases hv2
    exact ⟨b, off, g, c, hma, hc j _ e, hV2⟩

theorem cloneL_any (na : Option Addr) (cap : Nat) (L : List (List UInt8)) (w : World) (hL : LView w na L) (hnil : na = none → L = []) (hle : L.length ≤ 4096) (hel : ∀ i, i < L.length → (el L i).length ≤ 10000000) :
    Calls Tryf.prog 29 #[.slice na L.length cap] w (ClonedL L w) := by
  cases na with
  | none =>
    obtain rfl := hnil rfl
    refine (cloneL_nil w 0 cap).mono ?_
    rintro e w' ⟨rfl, rfl⟩
    exact ⟨none, rfl, ⟨[], View.nil _ _, rfl, fun j hj => by simp at hj⟩, Below.refl _ _⟩
  | some a => exact cloneL_some w a cap L hL hle hel

/-- What the law is asked with. -/
structure Asked (w : World) (fl fy : Int) (cn : Nat) (fa : Option Addr) (fx : List UInt8) (aa : Option Addr) (av : List UInt8) (na : Option Addr) (L : List (List UInt8)) : Prop where
  hc : cn < 256
  hf0 : 0 ≤ fl
  hf : fl < 256
  hfl : flagOf cn = fl
  hx : bits .or .u8 fl 16 = fy
  hx0 : 0 ≤ fy
  hx1 : fy < 256
  hVf : View w fa (bc fx)
  hnf : fa = none → fx = []
  hVa : View w aa (bc av)
  hna : aa = none → av = []
  hL : LView w na L
  hnl : na = none → L = []
  hg : w.cell? ⟨5, cn, none⟩ = some (.int .u8 fl)
  h5 : 5 < w.heap.size
  lf : fx.length ≤ 65536
  la : av.length ≤ 65536
  ll : L.length ≤ 4096
  ne : ∀ i, i < L.length → el L i ≠ []
  fit : ∀ i, i < L.length → (fx.length + av.length) + (el L i).length ≤ 4069

theorem LView.all {w w' : World} {ao : Option Addr} {L : List (List UInt8)} (h : LView w ao L) (hb : Below w.heap.size w w') : LView w' ao L := by
  obtain ⟨xs, h1, h2, h3⟩ := h
  refine ⟨xs, h1.all hb, h2, fun j hj => ?_⟩
  obtain ⟨ba, cb, e, q1, q2⟩ := h3 j hj
  exact ⟨ba, cb, e, q1.all hb, q2⟩

theorem env_of {w w1 w2 w3 : World} {fl fy : Int} {cn : Nat} {fa : Option Addr} {fx : List UInt8} {aa : Option Addr} {av : List UInt8} {na : Option Addr} {L : List (List UInt8)} (A : Asked w fl fy cn fa fx aa av na L) {f1 a1 l1 : Option Addr}
    (hb1 : Below w.heap.size w w1) (hb2 : Below w1.heap.size w1 w2) (hb3 : Below w2.heap.size w2 w3) (v1 : View w1 f1 (bc fx)) (n1 : f1 = none → fx.length = 0) (v2 : View w2 a1 (bc av)) (n2 : a1 = none → av.length = 0) (p2 : ∀ k o, a1 = some ⟨k, o, none⟩ → k < w2.heap.size) (v3 : LView w3 l1 L) :
    Env w3 fl fy cn f1 fx.length fx a1 av.length av l1 L where
  hc := A.hc
  hf0 := A.hf0
  hf := A.hf
  hx := A.hx
  hx0 := A.hx0
  hx1 := A.hx1
  hfc := Nat.le_refl _
  hcf := by have := A.lf; unfold maxLen; omega
  hfn := fun h => ⟨n1 h, n1 h⟩
  hVf := (v1.all hb2).all hb3
  hVa := v2.all hb3
  hna := fun h => List.eq_nil_of_length_eq_zero (n2 h)
  hpa := fun k o h => Nat.lt_of_lt_of_le (p2 k o h) hb3.size
  hg := cell_later hb3 (cell_later hb2 (cell_later hb1 A.hg))
  h5 := by have := A.h5; have := hb1.size; have := hb2.size; have := hb3.size; omega
  hL := v3
  ne := A.ne
  fit := A.fit

end Go.Proofs.Qxb6003713aFmt
