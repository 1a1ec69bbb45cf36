import Derived.Test.Qxb6003713aFmtAnT
import Derived.Deep.CutRange
namespace Go.Proofs.Qxb6003713aFmt
open Go.RowKit
set_option linter.unusedVariables false
set_option linter.unusedSimpArgs false

/-- The routes as they came in. -/
def RV (w : World) (ra : Option Addr) (rs : List RI) : Prop :=
  rs = [] ∨ ∃ rb ro, ra = some ⟨rb, ro, none⟩ ∧ ∀ i r, rs[i]? = some r → RC w rb (ro + i * 46) r.ins
theorem RV.later {w w' : World} {ra : Option Addr} {rs : List RI} (h : RV w ra rs) (hb : Below w.heap.size w w') : RV w' ra rs := by
  rcases h with h | ⟨rb, ro, e, h⟩
  · exact .inl h
  · exact .inr ⟨rb, ro, e, fun i r hi => (h i r hi).on hb.size (hb.block _ (h i r hi).1)⟩
theorem PMV.later {w w' : World} {pp : Option Addr} {pm : Option PI} (h : PMV w pp pm) (hb : Below w.heap.size w w') : PMV w' pp pm := by
  cases pm with
  | none => exact h
  | some q =>
    obtain ⟨pb, po, ta, tc, h1, h2, h3, h4, h5, h6, h7⟩ := h
    exact ⟨pb, po, ta, tc, h1, cell_later hb h2, cell_later hb h3, cell_later hb h4, cell_later hb h5, h6.all hb, h7⟩
/-- All that the law reads. -/
structure In (w : World) (B : Nat) (o : Nat → UInt8) (la pa : Nat) (a4 : Bool) (ca : Option Addr) (cs : List (Nat → UInt8)) (pp : Option Addr) (pm : Option PI) (ra : Option Addr) (rs : List RI) (p4 p6 : Addr) : Prop where
  fl : Fl w
  zs : Zs w p4 p6
  cv : CV w ca cs
  pv : PMV w pp pm
  rv : RV w ra rs
  b1 : Blk w B 39 (ar16 o)
  b2 : Blk w (B + 1) 44 #[.int .u32 la, .int .u32 pa, .bool a4]
theorem In.later {w w' : World} {B : Nat} {o : Nat → UInt8} {la pa : Nat} {a4 : Bool} {ca : Option Addr} {cs : List (Nat → UInt8)} {pp : Option Addr} {pm : Option PI} {ra : Option Addr} {rs : List RI} {p4 p6 : Addr} (h : In w B o la pa a4 ca cs pp pm ra rs p4 p6) (hb : Below w.heap.size w w') : In w' B o la pa a4 ca cs pp pm ra rs p4 p6 :=
  ⟨h.fl.later hb, h.zs.later hb, h.cv.later hb, h.pv.later hb, h.rv.later hb, blk_on hb h.b1, blk_on hb h.b2⟩
theorem rangeBlk {w : World} {g : Nat} {T : TypeId} {xs : Array Value} (h : Blk w g T xs) : w.rangeAt g 0 xs.toList := fun j v hv => by
  rw [Nat.zero_add, h.cell]; simpa using hv
theorem RC.range {w : World} {rb ro : Nat} {xs : Array Value} (h : RC w rb ro xs) : w.rangeAt rb ro xs.toList := fun j v hv => by
  have hv' : xs[j]? = some v := by simpa using hv
  have hj : j < xs.size := (Array.getElem?_eq_some_iff.1 hv').1
  rw [h.2 j hj]; exact hv'
/-- What the law asks of a route. -/
structure RI.fine (r : RI) : Prop where
  ty : r.ty < 256
  n : r.n < 256
  tag : r.tag < 4294967296
  l1 : r.l1 < 4294967296
  l2 : r.l2 < 4294967296
theorem RI.ok_of {r : RI} (h : r.fine) (hn : r.n = 0 ∨ r.n = 4 ∨ r.n = 16) (hl : ¬ r.len < 0) : r.ok := by
  refine ⟨?_, hn, h.tag, h.l1, h.l2⟩
  unfold RI.len nlenOf at hl
  by_cases h2 : r.ty = 2
  · exact .inl h2
  · by_cases h3 : r.ty = 3
    · exact .inr (.inl h3)
    · by_cases h4 : r.ty = 4
      · exact .inr (.inr h4)
      · rw [if_neg h2, if_neg h3, if_neg h4] at hl; omega
theorem info53 : (Tryf.prog.info? 53).map (·.size) = some 46 := by kernel_rfl

end Go.Proofs.Qxb6003713aFmt
