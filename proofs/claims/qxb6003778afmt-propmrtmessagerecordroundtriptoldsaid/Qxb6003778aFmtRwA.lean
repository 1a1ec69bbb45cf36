import Derived.Test.Qxb6003778aFmtAnA
import Derived.Test.Qxb6003778aFmtRows
import Derived.LaidLaws
import Derived.ProofKit
namespace Go.Proofs.Qxb6003778aFmt
open Go.ChangeShapes Go.WideShapes Go.ChangeAt Go.RowKit
set_option linter.unusedVariables false
set_option linter.unusedSimpArgs false

namespace RwRow
abbrev nm (i : Nat) : String := (Rows.propMRTMessageRecordRoundTripRow.laid.map (·.1)).getD i ""
theorem g4 : Tryf.prog.globalNamed (nm 0) = some 1 := by kernel_rfl
theorem g6 : Tryf.prog.globalNamed (nm 1) = some 2 := by kernel_rfl
theorem g0 : Tryf.prog.globalNamed (nm 2) = some 3 := by kernel_rfl
theorem t4 : (Tryf.prog.globals[1]?).map (·.type) = some 30 := by kernel_rfl
theorem t6 : (Tryf.prog.globals[2]?).map (·.type) = some 30 := by kernel_rfl
theorem t0 : (Tryf.prog.globals[3]?).map (·.type) = some 30 := by kernel_rfl
theorem cells30 : Tryf.prog.cellsOf 30 = 1 := by kernel_rfl
theorem cells28 : Tryf.prog.cellsOf 28 = 1 := by kernel_rfl
theorem cells86 : Tryf.prog.cellsOf 86 = 2 := by kernel_rfl

theorem handle_some {W : World} {H : Type} {enc : TypeId × Value → H} {base fuel : Nat} {sp : Nat → Bool} {held : Bool} {cs : List Value} {d : DataW H} {p : List MemPlace}
    (h : DataW.trod enc Tryf.prog W base sp held fuel 30 cs = some (.agg [.ptr d], p)) : ∃ a q, cs = [.pointer (some a)] ∧ p = MemPlace.row a 2 ++ q := by
  obtain ⟨y0, n, hx, hl, hy⟩ := trod_struct1 Tryf.underlying30 h
  rw [cells30] at hl
  have hy' : DataW.trod enc Tryf.prog W base sp held n 28 (List.take (Tryf.prog.cellsOf 28) (List.drop 0 cs)) = some y0 := hy
  rw [cells28, List.drop_zero, List.take_of_length_le (by omega)] at hy'
  simp only [Prod.mk.injEq, DataW.agg.injEq, List.cons.injEq, and_true] at hx
  obtain ⟨h1, rfl⟩ := hx
  obtain ⟨d0, p0⟩ := y0
  simp only at h1
  subst h1
  obtain ⟨f', a, cs', q, rfl, -, -, hp⟩ := ptr_of_trod Tryf.underlying28 hy'
  rw [show Tryf.prog.cellsOf 86 = 2 from cells86] at hp
  exact ⟨a, q, rfl, hp⟩

theorem handle_nil {W : World} {H : Type} {enc : TypeId × Value → H} {base fuel : Nat} {sp : Nat → Bool} {held : Bool} {cs : List Value} {p : List MemPlace}
    (h : DataW.trod enc Tryf.prog W base sp held fuel 30 cs = some (.agg [.nil], p)) : cs = [.pointer none] := by
  obtain ⟨y0, n, hx, hl, hy⟩ := trod_struct1 Tryf.underlying30 h
  rw [cells30] at hl
  have hy' : DataW.trod enc Tryf.prog W base sp held n 28 (List.take (Tryf.prog.cellsOf 28) (List.drop 0 cs)) = some y0 := hy
  rw [cells28, List.drop_zero, List.take_of_length_le (by omega)] at hy'
  simp only [Prod.mk.injEq, DataW.agg.injEq, List.cons.injEq, and_true] at hx
  obtain ⟨h1, rfl⟩ := hx
  obtain ⟨d0, p0⟩ := y0
  simp only at h1
  subst h1
  cases n with
  | zero => simp [DataW.trod] at hy'
  | succ n =>
    match cs, hl with
    | [c], _ =>
      cases c with
      | pointer o =>
        cases o with
        | none => rfl
        | some a => simp [DataW.trod, Tryf.underlying28, Option.bind_eq_some_iff, Function.comp, Option.map_eq_some_iff] at hy'
      | _ => simp [DataW.trod, Tryf.underlying28] at hy'

theorem zs_of_laid {W : World} (h : laidMet Tryf.prog Rows.propMRTMessageRecordRoundTripRow.laid W) : ∃ p4 p6, Zs W p4 p6 := by
  obtain ⟨ps, ⟨q4, u4, cs4, f4, p4, r4, hg4, ht4, hv4, hd4, ⟨q6, u6, cs6, f6, p6, r6, hg6, ht6, hv6, hd6, ⟨q0, u0, cs0, f0, p0, r0, hg0, ht0, hv0, hd0, hr0, e0⟩, e6⟩, e4⟩, hnd, hrows⟩ := h
  obtain rfl := Option.some.inj (g4.symm.trans hg4)
  obtain rfl := Option.some.inj (g6.symm.trans hg6)
  obtain rfl := Option.some.inj (g0.symm.trans hg0)
  obtain rfl := Option.some.inj (t4.symm.trans ht4)
  obtain rfl := Option.some.inj (t6.symm.trans ht6)
  obtain rfl := Option.some.inj (t0.symm.trans ht0)
  subst e0
  subst e6
  subst e4
  obtain ⟨l4⟩ := cs4
  obtain ⟨l6⟩ := cs6
  obtain ⟨l0⟩ := cs0
  obtain ⟨a4, k4, rfl, rfl⟩ := handle_some hd4
  obtain ⟨a6, k6, rfl, rfl⟩ := handle_some hd6
  obtain rfl := handle_nil hd0
  have c4 : W.cell? ⟨1, 0, none⟩ = some (.pointer (some a4)) := by simpa using World.var?_cell g4 hv4 0
  have c6 : W.cell? ⟨2, 0, none⟩ = some (.pointer (some a6)) := by simpa using World.var?_cell g6 hv6 0
  have c0 : W.cell? ⟨3, 0, none⟩ = some (.pointer none) := by simpa using World.var?_cell g0 hv0 0
  have b4 := (hrows a4.block a4.off (by simp [MemPlace.row, List.range_succ])).1
  have b6 := (hrows a6.block a6.off (by simp [MemPlace.row, List.range_succ])).1
  refine ⟨a4, a6, c4, c6, c0, ?_, b4, b6⟩
  rintro rfl
  simp [MemPlace.row, List.range_succ] at hnd

end RwRow
end Go.Proofs.Qxb6003778aFmt
