import Derived.Test.Qxb6003861aFmtAdY
import Derived.Test.Qxb6003861aFmtOpen
import Derived.Test.Qxb6003861aFmtRows
import Derived.Test.Qxb6003861aFmtCards
import Derived.Stop.JoinedTold
import Derived.Stop.JoinedAt
import Derived.Lib.SmallJoins
import Derived.Deep.Slices
import Derived.OpenShut
import Derived.SevenToldRow
import Derived.ProofKit
namespace Go.Proofs.Qxb6003861aFmt
open Go.ChangeShapes Go.WideShapes Go.ChangeAt Go.RowKit Go.Extern.Stop Go.Stop Go.Extern
set_option linter.unusedVariables false
set_option linter.unusedSimpArgs false

namespace StRow
theorem own : ownKnob Tryf.prog.godebug = none := by kernel_rfl
theorem laidOut : laidOutB Tryf.prog = true := by kernel_rfl
theorem cells2 : Tryf.prog.cellsOf 2 = 1 := by kernel_rfl
theorem cells3 : Tryf.prog.cellsOf 3 = 1 := by kernel_rfl
theorem cells34 : Tryf.prog.cellsOf 34 = 1 := by kernel_rfl
theorem cells36 : Tryf.prog.cellsOf 36 = 6 := by kernel_rfl

section
variable {H : Type} {enc : TypeId × Value → H} {W : World}
theorem cells_at {x : Addr} {n : Nat} {cs : List Value} (h : W.cells? 0 x n = some cs) : cs.length = n ∧ ∀ j, j < n → ∃ c, cs[j]? = some c ∧ W.cell? (x.add j) = some c := by
  simp only [World.cells?, Nat.zero_le, if_true] at h
  have hl : cs.length = n := by simpa using Lib.mapM_length h
  refine ⟨hl, fun j hj => ?_⟩
  obtain ⟨b, hb, hf⟩ := Lib.mapM_at h j j (by simp [hj])
  exact ⟨b, hb, hf⟩
theorem one_at {cs : List Value} {off : Nat} {v : Value} (h : (cs.drop off).take 1 = [v]) : cs[off]? = some v := by
  have h0 : ((cs.drop off).take 1)[0]? = some v := by rw [h]; rfl
  simpa using h0
/-- One operation of the script. -/
theorem open_op {base m : Nat} {sp : Nat → Bool} {held : Bool} {cs : List Value} {x : DataW H × List MemPlace} (hd : DataW.trod enc Tryf.prog W base sp held m 36 cs = some x) : ∃ o : DO, ∀ j, j < 6 → cs[j]? = o.cells[j]? := by
  obtain ⟨xs, m, _, _, _, hl, hf⟩ := DataW.trod_struct Tryf.underlying36 hd
  have hl' : xs.length = 6 := hl
  have get : ∀ i, i < 6 → ∃ y, xs[i]? = some y := fun i hi => ⟨_, List.getElem?_eq_getElem (by omega)⟩
  obtain ⟨y0, q0⟩ := get 0 (by omega)
  obtain ⟨y1, q1⟩ := get 1 (by omega)
  obtain ⟨y2, q2⟩ := get 2 (by omega)
  obtain ⟨y3, q3⟩ := get 3 (by omega)
  obtain ⟨y4, q4⟩ := get 4 (by omega)
  obtain ⟨y5, q5⟩ := get 5 (by omega)
  have f0 : DataW.trod enc Tryf.prog W base sp held m 3 ((cs.drop 0).take (Tryf.prog.cellsOf 3)) = some y0 := (hf 0 _ rfl).trans q0
  have f1 : DataW.trod enc Tryf.prog W base sp held m 2 ((cs.drop 1).take (Tryf.prog.cellsOf 2)) = some y1 := (hf 1 _ rfl).trans q1
  have f2 : DataW.trod enc Tryf.prog W base sp held m 2 ((cs.drop 2).take (Tryf.prog.cellsOf 2)) = some y2 := (hf 2 _ rfl).trans q2
  have f3 : DataW.trod enc Tryf.prog W base sp held m 3 ((cs.drop 3).take (Tryf.prog.cellsOf 3)) = some y3 := (hf 3 _ rfl).trans q3
  have f4 : DataW.trod enc Tryf.prog W base sp held m 3 ((cs.drop 4).take (Tryf.prog.cellsOf 3)) = some y4 := (hf 4 _ rfl).trans q4
  have f5 : DataW.trod enc Tryf.prog W base sp held m 3 ((cs.drop 5).take (Tryf.prog.cellsOf 3)) = some y5 := (hf 5 _ rfl).trans q5
  rw [cells3] at f0 f3 f4 f5
  rw [cells2] at f1 f2
  obtain ⟨z0, e0, -, _⟩ := DataW.trod_int Tryf.underlying3 f0
  obtain ⟨z1, e1, -, _⟩ := DataW.trod_int Tryf.underlying2 f1
  obtain ⟨z2, e2, -, _⟩ := DataW.trod_int Tryf.underlying2 f2
  obtain ⟨z3, e3, -, _⟩ := DataW.trod_int Tryf.underlying3 f3
  obtain ⟨z4, e4, -, _⟩ := DataW.trod_int Tryf.underlying3 f4
  obtain ⟨z5, e5, -, _⟩ := DataW.trod_int Tryf.underlying3 f5
  refine ⟨⟨z0, z1, z2, z3, z4, z5⟩, fun j hj => ?_⟩
  match j, hj with
  | 0, _ => exact one_at e0
  | 1, _ => exact one_at e1
  | 2, _ => exact one_at e2
  | 3, _ => exact one_at e3
  | 4, _ => exact one_at e4
  | 5, _ => exact one_at e5
/-- The script. -/
theorem open_ops {ao : Option Addr} {len cap fuel : Nat} {x : DataW H × List MemPlace} (hf : DataW.trod enc Tryf.prog W 0 (fun _ => true) true fuel 23 [.slice ao len cap] = some x) : ∃ ops : List DO, ops.length = len ∧ OV W ao ops := by
  rcases Go.Deep.open_slice Tryf.underlying23 hf with ⟨hcs, _⟩ | ⟨a, l, c, m, n, D, Pl, hcs, _, hl, hm, hmm, _, hall⟩
  · simp at hcs
    obtain ⟨rfl, rfl, rfl⟩ := hcs
    exact ⟨[], rfl, .inl rfl⟩
  · simp at hcs
    obtain ⟨rfl, rfl, rfl⟩ := hcs
    simp only [if_true] at hmm
    have H1 : ∀ i, ∃ o : DO, i < len → ∀ f v, o.cells[f]? = some v → W.cell? ((a.add (i * 6)).add f) = some v := by
      intro i
      by_cases hi : i < len
      · obtain ⟨cs', h1, h2⟩ := hall i (by omega)
        rw [cells36] at h1
        obtain ⟨o, ho⟩ := open_op h2
        obtain ⟨hlen, hat⟩ := cells_at h1
        refine ⟨o, fun _ f v hv => ?_⟩
        have hf6 : f < 6 := (Array.getElem?_eq_some_iff.1 hv).1
        obtain ⟨c, hc1, hc2⟩ := hat f hf6
        rw [ho f hf6, hv] at hc1
        cases hc1
        exact hc2
      · exact ⟨⟨0, 0, 0, 0, 0, 0⟩, fun h => absurd h hi⟩
    obtain ⟨g, hg⟩ := Classical.skolem.1 H1
    refine ⟨(List.range len).map g, by simp, ?_⟩
    by_cases h0 : len = 0
    · subst h0; exact .inl rfl
    · right
      obtain ⟨b, off, spot⟩ := a
      have h00 := hg 0 (by omega) 0 _ (show (g 0).cells[0]? = some (.int .i64 (g 0).kind) from rfl)
      have hspot : spot = none := by simpa [Addr.add] using World.cell?_spot h00
      subst hspot
      refine ⟨b, off, rfl, ?_, fun k o hk f v hv => ?_⟩
      · have := World.block_lt_of_cell? W _ h00
        simpa [Addr.add] using this
      · have hk' : k < len := by have := (List.getElem?_eq_some_iff.1 hk).1; simpa using this
        have : o = g k := by
          have h1 : ((List.range len).map g)[k]? = some (g k) := by simp [hk']
          rw [h1] at hk
          cases hk
          rfl
        subst this
        have h2 := hg k hk' f v hv
        rwa [add_plain, add_plain] at h2
end

theorem ic_of (l : List Int) : ic l = l.map (Value.int .i64) := rfl
theorem uc_of (l : List Int) : uc l = l.map (Value.int .u64) := rfl

set_option maxRecDepth 100000 in
theorem lifted (os : Os) (started : os.Started) (H : Type) (enc : TypeId × Value → H) :
    ReturnsInTold none {} Tryf.checked os 4 .any Input.okWide ((OpenSpec.ofChange Rows.propStepEndCountsAndEmptiesWaitingSpec).preRow enc Tryf.prog Tryf.f4 [] false []) (fun F => ((OpenSpec.ofChange Rows.propStepEndCountsAndEmptiesWaitingSpec).at F).post enc Tryf.prog Tryf.f4 false true false false) (aloneAtReturn Tryf.prog) nothingAlways := by
  refine returnsInTold_of_row (C := Tryf.checked) (s := OpenSpec.ofChange Rows.propStepEndCountsAndEmptiesWaitingSpec) (by kernel_rfl) own started (by kernel_rfl) Tryf.func4
    (OpenSpec.witness_stopped (enc := enc) (C := Tryf.checked) false ⟨#[], #[.slice none 0 0, .int .i64 0, .slice none 0 0, .slice none 0 0], []⟩ 8 (by kernel_rfl) (by kernel_rfl) (by kernel_rfl) (by kernel_rfl)) ?_
  intro F W base args ds gs before _ hF hval0 hW _ _ _ _ _
  have hval : ∀ (j : Nat) t v, Tryf.f4.params[j]? = some t → args[j]? = some v → Value.okWide Tryf.prog W .any base t v := hval0
  have hW' := hW
  obtain ⟨p, q, hA0, hV, rfl, hfz, hnd⟩ := hW
  have hA : DataW.TrodAll enc Tryf.prog W 0 (fun _ => true) true Tryf.f4.params.toList args.toList ds p := hA0
  rw [Tryf.params4] at hA hval
  obtain ⟨v0, v1, v2, v3, d0, d1, d2, d3, p0, p1, p2, p3, rfl, rfl, rfl, h0, h1, h2, h3⟩ := trodAll_four hA
  obtain ⟨rfl, rfl⟩ := trodVars_none hV
  have k0 := h0
  have k1 := h1
  have k2 := h2
  have k3 := h3
  have lt0 : ∀ x ∈ p0, x.block < W.heap.size := by obtain ⟨m, hm⟩ := k0; exact DataW.trod_lt m _ _ _ hm
  have lt1 : ∀ x ∈ p1, x.block < W.heap.size := by obtain ⟨m, hm⟩ := k1; exact DataW.trod_lt m _ _ _ hm
  have lt2 : ∀ x ∈ p2, x.block < W.heap.size := by obtain ⟨m, hm⟩ := k2; exact DataW.trod_lt m _ _ _ hm
  have lt3 : ∀ x ∈ p3, x.block < W.heap.size := by obtain ⟨m, hm⟩ := k3; exact DataW.trod_lt m _ _ _ hm
  obtain ⟨m0, e0⟩ := h0
  obtain ⟨m2, e2⟩ := h2
  obtain ⟨m3, e3⟩ := h3
  obtain ⟨lim, rfl, -, -, wl⟩ := open_int Tryf.underlying3 (hval 1 3 v1 rfl rfl) k1
  obtain ⟨ia, len0, c0, rfl⟩ := okWide_slice Tryf.underlying22 (hval 0 22 v0 rfl rfl)
  obtain ⟨oa, len2, c2, rfl⟩ := okWide_slice Tryf.underlying23 (hval 2 23 v2 rfl rfl)
  obtain ⟨ta, len3, c3, rfl⟩ := okWide_slice Tryf.underlying24 (hval 3 24 v3 rfl rfl)
  obtain ⟨ids, rfl, vw0, nl0, _, _, wf0⟩ := open_ints_view Tryf.underlying22 Tryf.underlying2 cells2 e0
  obtain ⟨ops, rfl, hO⟩ := open_ops e2
  obtain ⟨tape, rfl, vw3, nl3, _, _, wf3⟩ := open_ints_view Tryf.underlying24 Tryf.underlying34 cells34 e3
  clear hA0 hval0
  have hlim : InR lim := bounds_i64 wl
  have htr : ∀ x ∈ tape, 0 ≤ x ∧ x < 18446744073709551616 := by
    intro x hx
    have := bounds_u64 (wf3 x hx)
    omega
  refine (root_any ia c0 ids lim oa c2 ops ta c3 tape W (by rw [ic_of]; exact vw0) (fun h => List.eq_nil_of_length_eq_zero (nl0 h)) hO (by rw [uc_of]; exact vw3) (fun h => List.eq_nil_of_length_eq_zero (nl3 h)) hlim htr).mono fun e W' ⟨he, kp⟩ => ?_
  subst he
  have bel : Below W.heap.size W W' := kp.below (Nat.le_refl _) (fun i q => q.elim)
  refine ⟨_, rfl, _, _, _, [], _, [], hW', trodAll_mk1 (shut_bool Tryf.underlying4 _), trodAll_mk4 (Below.trod laidOut (by kernel_rfl) (of_decide_eq_true (by kernel_rfl)) k0 bel lt0) (Below.trod laidOut (by kernel_rfl) (of_decide_eq_true (by kernel_rfl)) k1 bel lt1) (Below.trod laidOut (by kernel_rfl) (of_decide_eq_true (by kernel_rfl)) k2 bel lt2) (Below.trod laidOut (by kernel_rfl) (of_decide_eq_true (by kernel_rfl)) k3 bel lt3), rfl, bel.frame _, fun h => by cases h⟩

theorem stops : Tryf.pinned.checked.prog.stops = Rows.propStepEndCountsAndEmptiesWaitingRow.stops := by kernel_rfl
theorem stopKnobs : Tryf.pinned.checked.prog.stopKnobs = [] := by kernel_rfl
theorem quiet (os : Os) : Stop.quiet Tryf.pinned.checked.prog os := by
  intro k hk
  rw [stopKnobs] at hk
  cases hk
end StRow
open StRow in
theorem stepEnd_holds : Rows.PropStepEndCountsAndEmptiesWaitingToldSaid :=
  Claim7.holds_of_told_any 4 Tryf.f4 _ [] [] _ _ _ (by kernel_rfl) rfl rfl rfl laidOut (by kernel_rfl) rfl ⟨rfl, rfl, rfl, rfl, rfl, rfl, rfl⟩ rfl rfl (by kernel_rfl) (by kernel_rfl) Tryf.func4 (by kernel_rfl)
    (of_decide_eq_true (by kernel_rfl)) (by unfold Func.isWrapper; first | (rw [if_pos (by decide +kernel)]; kernel_rfl) | (rw [if_neg (by decide +kernel)]; exact ⟨rfl, rfl⟩)) stops.symm rfl stopKnobs.symm (by kernel_rfl)
    (by kernel_rfl) (by kernel_rfl) (by kernel_rfl) (by kernel_rfl) (by kernel_rfl) (by kernel_rfl) (by kernel_rfl) (by kernel_rfl) (by kernel_rfl) rfl (by kernel_rfl) rfl rfl
    rfl rfl
    rfl (by kernel_rfl) (by kernel_rfl) (by kernel_rfl) (by decide) (by kernel_rfl)
    (OpenClaim.moreEntering_of (by kernel_rfl) (by kernel_rfl) (by kernel_rfl) (by kernel_rfl) (by kernel_rfl) (by kernel_rfl) (by kernel_rfl) (by kernel_rfl) (by kernel_rfl) (by kernel_rfl))
    ⟨_, WideRow.started_initial, quiet _⟩
    (fun os started _ H enc _ => lifted os started H enc)
end Go.Proofs.Qxb6003861aFmt
