import Derived.Test.Qxb6003713aFmtAnX
namespace Go.Proofs.Qxb6003713aFmt
open Go.RowKit
set_option linter.unusedVariables false
set_option linter.unusedSimpArgs false

theorem info70 : (Tryf.prog.info? 70).map (fun i => (i.zero, i.size, i.bytes)) = some (some (.agg #[.int .u8 0, .int .u8 0, .int .u8 0, .int .u8 0, .int .u8 0, .int .u8 0, .int .u8 0, .int .u8 0]), 8, 8) := by kernel_rfl
theorem size70 : (Tryf.prog.info? 70).map (·.size) = some 8 := by kernel_rfl

theorem setN {g : Nat} {T : TypeId} : ∀ (vs : List Value) (o : Nat) (w : World) (xs : Array Value), Blk w g T xs → ∃ ys, Blk (w.setCells g o vs) g T ys ∧ ys.size = xs.size ∧ (∀ j, j < o ∨ o + vs.length ≤ j → ys[j]? = xs[j]?) ∧ (∀ j, j < vs.length → o + j < xs.size → ys[o + j]? = vs[j]?) ∧ Kept w (w.setCells g o vs) (fun i => i = g)
  | [], o, w, xs, h => ⟨xs, h, rfl, fun _ _ => rfl, fun j hj => by simp at hj, Kept.refl _ _⟩
  | v :: vs, o, w, xs, h => by
    obtain ⟨ys, h1, h2, h3, h4, h5⟩ := setN vs (o + 1) (w.setCell ⟨g, o, none⟩ v) _ (h.set o v)
    refine ⟨ys, h1, by rw [h2]; simp, fun j hj => ?_, fun j hj hs => ?_, ((Kept.refl w (fun i => i = g)).set (k := o) (.inl rfl) v).trans h5⟩
    · rw [h3 j (by simp only [List.length_cons] at hj; omega), Array.getElem?_setIfInBounds]
      rw [if_neg (by simp only [List.length_cons] at hj; omega)]
    · cases j with
      | zero =>
        rw [Nat.add_zero, h3 o (.inl (by omega)), Array.getElem?_setIfInBounds]
        simp; omega
      | succ j =>
        have := h4 j (by simpa using hj) (by simpa using (by omega : o + 1 + j < xs.size))
        rw [show o + (j + 1) = o + 1 + j by omega, this]
        simp

/-- The first k communities copied. -/
def Cp (cs : List (Nat → UInt8)) (ys : Array Value) (k : Nat) : Prop := ys.size = cs.length * 8 ∧ ∀ i (hi : i < cs.length), i < k → ∀ j, j < 8 → ys[i * 8 + j]? = some (.int .u8 (cs[i] j).toNat)
theorem Cp.cv {cs : List (Nat → UInt8)} {ys : Array Value} {W : World} {xb : Nat} (h : Cp cs ys cs.length) (hb : Blk W xb 70 ys) : CV W (some ⟨xb, 0, none⟩) cs :=
  .inr ⟨xb, 0, rfl, hb.lt, fun i hi j hj => by rw [hb.cell, Nat.zero_add]; exact h.2 i hi hi j hj⟩
theorem Cp.step {cs : List (Nat → UInt8)} {xs ys : Array Value} {k : Nat} {cz : Nat → UInt8} (h : Cp cs xs k) (hk : cs[k]? = some cz) (hs : ys.size = xs.size) (h1 : ∀ j, j < k * 8 ∨ k * 8 + 8 ≤ j → ys[j]? = xs[j]?)
    (h2 : ∀ j, j < 8 → ys[k * 8 + j]? = some (.int .u8 (cz j).toNat)) : Cp cs ys (k + 1) := by
  refine ⟨hs.trans h.1, fun i hi hik j hj => ?_⟩
  by_cases hlt : i < k
  · rw [h1 _ (.inl (by omega))]; exact h.2 i hi hlt j hj
  · obtain rfl : i = k := by omega
    obtain ⟨hk', rfl⟩ := List.getElem?_eq_some_iff.1 hk
    exact h2 j hj

end Go.Proofs.Qxb6003713aFmt
