import Derived.Test.Qxb6003713aFmtAnU
import Derived.Test.Qxb6003713aFmtOpen
import Derived.Lib.SmallJoins
import Derived.Deep.Slices
import Derived.OpenShut
namespace Go.Proofs.Qxb6003713aFmt
open Go.ChangeShapes Go.WideShapes Go.ChangeAt Go.RowKit
set_option linter.unusedVariables false
set_option linter.unusedSimpArgs false

namespace AnRow
section
variable {H : Type} {enc : TypeId × Value → H} {W : World}
theorem cells5 : Tryf.prog.cellsOf 5 = 1 := by kernel_rfl
theorem cells70 : Tryf.prog.cellsOf 70 = 8 := by kernel_rfl
theorem cells53 : Tryf.prog.cellsOf 53 = 46 := by kernel_rfl
theorem cells47 : Tryf.prog.cellsOf 47 = 4 := by kernel_rfl
theorem cells42 : Tryf.prog.cellsOf 42 = 1 := by kernel_rfl
theorem cells4 : Tryf.prog.cellsOf 4 = 1 := by kernel_rfl
theorem cells23 : Tryf.prog.cellsOf 23 = 1 := by kernel_rfl
theorem cells49 : Tryf.prog.cellsOf 49 = 8 := by kernel_rfl
theorem cells50 : Tryf.prog.cellsOf 50 = 10 := by kernel_rfl
theorem cells51 : Tryf.prog.cellsOf 51 = 6 := by kernel_rfl
theorem cells39 : Tryf.prog.cellsOf 39 = 16 := by kernel_rfl

theorem cells_at {x : Addr} {n : Nat} {cs : List Value} (h : W.cells? 0 x n = some cs) : cs.length = n ∧ ∀ j, j < n → ∃ c, cs[j]? = some c ∧ W.cell? (x.add j) = some c := by
  simp only [World.cells?, Nat.zero_le, if_true] at h
  have hl : cs.length = n := by simpa using Lib.mapM_length h
  refine ⟨hl, fun j hj => ?_⟩
  obtain ⟨b, hb, hf⟩ := Lib.mapM_at h j j (by simp [hj])
  exact ⟨b, hb, hf⟩

theorem open_arr {T : TypeId} {n base m : Nat} {sp : Nat → Bool} {held : Bool} {cs : List Value} {x : DataW H × List MemPlace} (ht : Tryf.prog.underlying T = some (.array n 5)) (hd : DataW.trod enc Tryf.prog W base sp held m T cs = some x) :
    ∃ o : Nat → UInt8, ∀ i, i < n → cs[i]? = some (.int .u8 (o i).toNat) := by
  obtain ⟨xs, m, _, _, _, hl, hel⟩ := DataW.trod_array ht hd
  have hz : ∀ i, ∃ b : UInt8, i < n → cs[i]? = some (.int .u8 b.toNat) := by
    intro i
    by_cases hi : i < n
    · have hE := hel i hi
      rw [cells5, Nat.mul_one, List.getElem?_eq_getElem (by omega)] at hE
      obtain ⟨z, e1, _, wz⟩ := DataW.trod_int Tryf.underlying5 hE
      have bz := bounds_u8 wz
      refine ⟨UInt8.ofNat z.toNat, fun _ => ?_⟩
      have h0 : ((cs.drop i).take 1)[0]? = some (.int .u8 z) := by rw [e1]; rfl
      have h1 : cs[i]? = some (.int .u8 z) := by simpa using h0
      rw [h1]
      have : ((UInt8.ofNat z.toNat).toNat : Int) = z := by
        rw [UInt8.toNat_ofNat']
        omega
      rw [this]
    · exact ⟨0, fun h => absurd h hi⟩
  exact Classical.skolem.1 hz

theorem one_at {cs : List Value} {off : Nat} {v : Value} (h : (cs.drop off).take 1 = [v]) : cs[off]? = some v := by
  have h0 : ((cs.drop off).take 1)[0]? = some v := by rw [h]; rfl
  simpa using h0
theorem part_at {cs : List Value} {off n i : Nat} (hi : i < n) : ((cs.drop off).take n)[i]? = cs[off + i]? := by
  simp [hi]

set_option maxRecDepth 100000 in
theorem open_route {base m : Nat} {sp : Nat → Bool} {held : Bool} {cs : List Value} {x : DataW H × List MemPlace} (hd : DataW.trod enc Tryf.prog W base sp held m 53 cs = some x) :
    ∃ r : RI, r.fine ∧ ∀ j, j < 46 → cs[j]? = r.ins[j]? := by
  obtain ⟨xs, m, _, _, _, hl, hf⟩ := DataW.trod_struct Tryf.underlying53 hd
  have hl' : xs.length = 10 := hl
  have get : ∀ i, i < 10 → ∃ y, xs[i]? = some y := fun i hi => ⟨_, List.getElem?_eq_getElem (by omega)⟩
  obtain ⟨y0, q0⟩ := get 0 (by omega)
  obtain ⟨y1, q1⟩ := get 1 (by omega)
  obtain ⟨y2, q2⟩ := get 2 (by omega)
  obtain ⟨y3, q3⟩ := get 3 (by omega)
  obtain ⟨y4, q4⟩ := get 4 (by omega)
  obtain ⟨y5, q5⟩ := get 5 (by omega)
  obtain ⟨y6, q6⟩ := get 6 (by omega)
  obtain ⟨y7, q7⟩ := get 7 (by omega)
  obtain ⟨y8, q8⟩ := get 8 (by omega)
  obtain ⟨y9, q9⟩ := get 9 (by omega)
  have f0 : DataW.trod enc Tryf.prog W base sp held m 5 ((cs.drop 0).take (Tryf.prog.cellsOf 5)) = some y0 := (hf 0 _ rfl).trans q0
  rw [cells5] at f0
  have f1 : DataW.trod enc Tryf.prog W base sp held m 49 ((cs.drop 1).take (Tryf.prog.cellsOf 49)) = some y1 := (hf 1 _ rfl).trans q1
  rw [cells49] at f1
  have f2 : DataW.trod enc Tryf.prog W base sp held m 50 ((cs.drop 9).take (Tryf.prog.cellsOf 50)) = some y2 := (hf 2 _ rfl).trans q2
  rw [cells50] at f2
  have f3 : DataW.trod enc Tryf.prog W base sp held m 42 ((cs.drop 19).take (Tryf.prog.cellsOf 42)) = some y3 := (hf 3 _ rfl).trans q3
  rw [cells42] at f3
  have f4 : DataW.trod enc Tryf.prog W base sp held m 51 ((cs.drop 20).take (Tryf.prog.cellsOf 51)) = some y4 := (hf 4 _ rfl).trans q4
  rw [cells51] at f4
  have f5 : DataW.trod enc Tryf.prog W base sp held m 5 ((cs.drop 26).take (Tryf.prog.cellsOf 5)) = some y5 := (hf 5 _ rfl).trans q5
  rw [cells5] at f5
  have f6 : DataW.trod enc Tryf.prog W base sp held m 39 ((cs.drop 27).take (Tryf.prog.cellsOf 39)) = some y6 := (hf 6 _ rfl).trans q6
  rw [cells39] at f6
  have f7 : DataW.trod enc Tryf.prog W base sp held m 42 ((cs.drop 43).take (Tryf.prog.cellsOf 42)) = some y7 := (hf 7 _ rfl).trans q7
  rw [cells42] at f7
  have f8 : DataW.trod enc Tryf.prog W base sp held m 42 ((cs.drop 44).take (Tryf.prog.cellsOf 42)) = some y8 := (hf 8 _ rfl).trans q8
  rw [cells42] at f8
  have f9 : DataW.trod enc Tryf.prog W base sp held m 4 ((cs.drop 45).take (Tryf.prog.cellsOf 4)) = some y9 := (hf 9 _ rfl).trans q9
  rw [cells4] at f9
  obtain ⟨z0, e0, -, w0⟩ := DataW.trod_int Tryf.underlying5 f0
  obtain ⟨o1, e1⟩ := open_arr Tryf.underlying49 f1
  obtain ⟨o2, e2⟩ := open_arr Tryf.underlying50 f2
  obtain ⟨z3, e3, -, w3⟩ := DataW.trod_int Tryf.underlying42 f3
  obtain ⟨o4, e4⟩ := open_arr Tryf.underlying51 f4
  obtain ⟨z5, e5, -, w5⟩ := DataW.trod_int Tryf.underlying5 f5
  obtain ⟨o6, e6⟩ := open_arr Tryf.underlying39 f6
  obtain ⟨z7, e7, -, w7⟩ := DataW.trod_int Tryf.underlying42 f7
  obtain ⟨z8, e8, -, w8⟩ := DataW.trod_int Tryf.underlying42 f8
  obtain ⟨b9, e9, -⟩ := DataW.trod_bool Tryf.underlying4 f9
  have c0 := one_at e0
  have c3 := one_at e3
  have c5 := one_at e5
  have c7 := one_at e7
  have c8 := one_at e8
  have c9 := one_at e9
  have d1 : ∀ i, i < 8 → cs[1 + i]? = some (.int .u8 (o1 i).toNat) := fun i hi => by rw [← part_at hi]; exact e1 i hi
  have d2 : ∀ i, i < 10 → cs[9 + i]? = some (.int .u8 (o2 i).toNat) := fun i hi => by rw [← part_at hi]; exact e2 i hi
  have d4 : ∀ i, i < 6 → cs[20 + i]? = some (.int .u8 (o4 i).toNat) := fun i hi => by rw [← part_at hi]; exact e4 i hi
  have d6 : ∀ i, i < 16 → cs[27 + i]? = some (.int .u8 (o6 i).toNat) := fun i hi => by rw [← part_at hi]; exact e6 i hi
  have b0 := bounds_u8 w0
  have b3 := bounds_u32 w3
  have b5 := bounds_u8 w5
  have b7 := bounds_u32 w7
  have b8 := bounds_u32 w8
  obtain ⟨n0, rfl⟩ : ∃ n : Nat, z0 = n := ⟨z0.toNat, by omega⟩
  obtain ⟨n3, rfl⟩ : ∃ n : Nat, z3 = n := ⟨z3.toNat, by omega⟩
  obtain ⟨n5, rfl⟩ : ∃ n : Nat, z5 = n := ⟨z5.toNat, by omega⟩
  obtain ⟨n7, rfl⟩ : ∃ n : Nat, z7 = n := ⟨z7.toNat, by omega⟩
  obtain ⟨n8, rfl⟩ : ∃ n : Nat, z8 = n := ⟨z8.toNat, by omega⟩
  refine ⟨⟨n0, o1, o2, n3, o4, n5, o6, n7, n8, b9⟩, ⟨by show n0 < 256; omega, by show n5 < 256; omega, by show n3 < _; omega, by show n7 < _; omega, by show n8 < _; omega⟩, fun j hj => ?_⟩
  match j, hj with
  | 0, _ => exact c0
  | 1, _ => exact d1 0 (by omega)
  | 2, _ => exact d1 1 (by omega)
  | 3, _ => exact d1 2 (by omega)
  | 4, _ => exact d1 3 (by omega)
  | 5, _ => exact d1 4 (by omega)
  | 6, _ => exact d1 5 (by omega)
  | 7, _ => exact d1 6 (by omega)
  | 8, _ => exact d1 7 (by omega)
  | 9, _ => exact d2 0 (by omega)
  | 10, _ => exact d2 1 (by omega)
  | 11, _ => exact d2 2 (by omega)
  | 12, _ => exact d2 3 (by omega)
  | 13, _ => exact d2 4 (by omega)
  | 14, _ => exact d2 5 (by omega)
  | 15, _ => exact d2 6 (by omega)
  | 16, _ => exact d2 7 (by omega)
  | 17, _ => exact d2 8 (by omega)
  | 18, _ => exact d2 9 (by omega)
  | 19, _ => exact c3
  | 20, _ => exact d4 0 (by omega)
  | 21, _ => exact d4 1 (by omega)
  | 22, _ => exact d4 2 (by omega)
  | 23, _ => exact d4 3 (by omega)
  | 24, _ => exact d4 4 (by omega)
  | 25, _ => exact d4 5 (by omega)
  | 26, _ => exact c5
  | 27, _ => exact d6 0 (by omega)
  | 28, _ => exact d6 1 (by omega)
  | 29, _ => exact d6 2 (by omega)
  | 30, _ => exact d6 3 (by omega)
  | 31, _ => exact d6 4 (by omega)
  | 32, _ => exact d6 5 (by omega)
  | 33, _ => exact d6 6 (by omega)
  | 34, _ => exact d6 7 (by omega)
  | 35, _ => exact d6 8 (by omega)
  | 36, _ => exact d6 9 (by omega)
  | 37, _ => exact d6 10 (by omega)
  | 38, _ => exact d6 11 (by omega)
  | 39, _ => exact d6 12 (by omega)
  | 40, _ => exact d6 13 (by omega)
  | 41, _ => exact d6 14 (by omega)
  | 42, _ => exact d6 15 (by omega)
  | 43, _ => exact c7
  | 44, _ => exact c8
  | 45, _ => exact c9
  | j + 46, h => exact absurd h (by omega)

/-- A row of elements, each of many cells, that came in. -/
theorem open_rows {A : Type} {t e : TypeId} {sz : Nat} {base : Nat} {fuel : Nat} {ao : Option Addr} {len cap : Nat} {x : DataW H × List MemPlace} (ht : Tryf.prog.underlying t = some (.slice e)) (hc : Tryf.prog.cellsOf e = sz) (hsz : 0 < sz) (P : A → List Value → Prop)
    (hP : ∀ {m : Nat} {cs : List Value} {y : DataW H × List MemPlace}, DataW.trod enc Tryf.prog W 0 (fun _ => true) true m e cs = some y → ∃ a, P a cs)
    (hf : DataW.trod enc Tryf.prog W 0 (fun _ => true) true fuel t [.slice ao len cap] = some x) :
    ∃ L : List A, L.length = len ∧ (L = [] ∨ ∃ b off, ao = some ⟨b, off, none⟩ ∧ ∀ i a, L[i]? = some a → ∃ cs, P a cs ∧ cs.length = sz ∧ ∀ j, j < sz → ∃ c, cs[j]? = some c ∧ W.cell? ⟨b, off + i * sz + j, none⟩ = some c) := by
  rcases Go.Deep.open_slice ht hf with ⟨hcs, _⟩ | ⟨a, l, c, m, n, D, Pl, hcs, _, hl, hm, hmm, _, hall⟩
  · simp at hcs
    obtain ⟨rfl, rfl, rfl⟩ := hcs
    exact ⟨[], rfl, .inl rfl⟩
  · simp at hcs
    obtain ⟨rfl, rfl, rfl⟩ := hcs
    simp only [if_true] at hmm
    by_cases h0 : len = 0
    · exact ⟨[], h0.symm, .inl rfl⟩
    · have hspot : a.spot = none := by
        obtain ⟨cs', h1, _⟩ := hall 0 (by omega)
        rw [hc] at h1
        obtain ⟨c0, _, h2⟩ := (cells_at h1).2 0 hsz
        have := World.cell?_spot h2
        obtain ⟨b, off, spot⟩ := a
        simpa [Addr.add] using this
      obtain ⟨b, off, spot⟩ := a
      simp only at hspot
      subst hspot
      have H1 : ∀ i : Fin len, ∃ y : A, ∃ cs, P y cs ∧ cs.length = sz ∧ ∀ j, j < sz → ∃ c, cs[j]? = some c ∧ W.cell? ⟨b, off + i * sz + j, none⟩ = some c := by
        intro i
        obtain ⟨cs', h1, h2⟩ := hall i (by omega)
        rw [hc] at h1
        obtain ⟨y, hy⟩ := hP h2
        obtain ⟨hl', hcells⟩ := cells_at h1
        refine ⟨y, cs', hy, hl', fun j hj => ?_⟩
        obtain ⟨c0, hc0, hc1⟩ := hcells j hj
        rw [Addr.add_lit, Addr.add_lit] at hc1
        exact ⟨c0, hc0, hc1⟩
      obtain ⟨f, hf'⟩ := Classical.skolem.1 H1
      refine ⟨List.ofFn f, by simp, .inr ⟨b, off, rfl, fun i y hy => ?_⟩⟩
      obtain ⟨hi, e⟩ := List.getElem?_eq_some_iff.1 hy
      have hi' : i < len := by simpa using hi
      have := hf' ⟨i, hi'⟩
      rw [List.getElem_ofFn] at e
      rw [← e]
      exact this
end
end AnRow
end Go.Proofs.Qxb6003713aFmt
