import Derived.Test.Qxb6003713aFmtPaQ
import Derived.Test.Qxb6003713aFmtOpen
import Derived.Test.Qxb6003713aFmtRows
import Derived.Test.Qxb6003713aFmtTie
import Derived.Test.Qxb6003713aFmtCards
import Derived.Stop.JoinedTold
import Derived.Stop.JoinedAt
import Derived.Lib.SmallJoins
import Derived.Lib.LaidTab
import Derived.Deep.Slices
import Derived.OpenVars
import Derived.SevenTiedAt
import Derived.ProofKit
namespace Go.Proofs.Qxb6003713aFmt
open Go.ChangeShapes Go.WideShapes Go.ChangeAt Go.RowKit Go.Extern.Stop Go.Stop Go.Extern
set_option linter.unusedVariables false
set_option linter.unusedSimpArgs false

namespace PaRow
theorem own : ownKnob Tryf.prog.godebug = none := by kernel_rfl
theorem laidOut : laidOutB Tryf.prog = true := by kernel_rfl
theorem gF : Tryf.prog.globalNamed (Rows.propPackerGreedyPartitionWithinRoomFreeSpec.vars.getD 0 "") = some 5 := by kernel_rfl
theorem gFType : (Tryf.prog.globals[5]?).map (·.type) = some 163 := by kernel_rfl
theorem cells5 : Tryf.prog.cellsOf 5 = 1 := by kernel_rfl
theorem cells163 : Tryf.prog.cellsOf 163 = 256 := by kernel_rfl

abbrev flagTab : List Int := (List.range 256).map flagOf
theorem laid_is : Rows.propPackerGreedyPartitionWithinRoomFreeRow.laid = [(Rows.propPackerGreedyPartitionWithinRoomFreeSpec.vars.getD 0 "", Lib.tabData .u8 flagTab)] := by kernel_rfl

/-- The settled world, the table laid: the witness. -/
def laidWorldOf (P : Program) (os : Os) : World :=
  let w0 := World.holding P os ⟨#[], #[], []⟩
  { w0 with heap := w0.heap.modify 5 fun
      | .cells _ t frozen => .cells (flagTab.map fun z => Value.int .u8 z).toArray t frozen
      | o => o }
theorem laid_met (os : Os) (args : Array Value) : laidMet Tryf.prog Rows.propPackerGreedyPartitionWithinRoomFreeRow.laid ((laidWorldOf Tryf.prog os).forCall (fun _ _ => 0) ⟨#[], args, []⟩).memory :=
  laidMet_of_run' 8 (by kernel_rfl) (by kernel_rfl)

theorem slice_of_trod {H : Type} {enc : TypeId × Value → H} {P : Program} {w : World} {base n : Nat} {spare : Nat → Bool} {held : Bool} {t e : TypeId} {v : Value} {x : DataW H × List MemPlace} (ht : P.underlying t = some (.slice e)) (h : DataW.trod enc P w base spare held n t [v] = some x) : ∃ a len cap, v = .slice a len cap := by
  rcases Go.Deep.open_slice ht h with ⟨h, _⟩ | ⟨a, l, c, _, _, _, _, h, _⟩
  · simp only [List.cons.injEq, and_true] at h
    exact ⟨_, _, _, h⟩
  · simp only [List.cons.injEq, and_true] at h
    exact ⟨_, _, _, h⟩

theorem cells_one {W : World} {x : Addr} {cs : List Value} (h : W.cells? 0 x 1 = some cs) : ∃ c, cs = [c] ∧ W.cell? x = some c := by
  simp only [World.cells?, Nat.zero_le, if_true] at h
  have : cs.length = 1 := by simpa using Lib.mapM_length h
  obtain ⟨c, rfl⟩ := List.length_eq_one_iff.1 this
  refine ⟨c, rfl, ?_⟩
  obtain ⟨b, hb, hf⟩ := Lib.mapM_at h 0 0 (by simp)
  simp only [List.getElem?_cons_zero, Option.some.injEq] at hb
  subst hb
  simpa [Addr.add] using hf

/-- A [][]byte that came in. -/
theorem open_lists_view {P : Program} {H : Type} {enc : TypeId × Value → H} {W : World} {t e b : TypeId} {ao : Option Addr} {len cap fuel : Nat} {x : DataW H × List MemPlace} (ht : P.underlying t = some (.slice e)) (he : P.underlying e = some (.slice b)) (hb : P.underlying b = some (.int .u8)) (hce : P.cellsOf e = 1) (hcb : P.cellsOf b = 1)
    (hf : DataW.trod enc P W 0 (fun _ => true) true fuel t [.slice ao len cap] = some x) :
    ∃ L : List (List UInt8), L.length = len ∧ LView W ao L ∧ (ao = none → L = []) ∧ len ≤ cap ∧ cap ≤ maxLen := by
  rcases Go.Deep.open_slice ht hf with ⟨hcs, _⟩ | ⟨a, l, c, m, n, D, Pl, hcs, _, hl, hm, hmm, _, hall⟩
  · simp at hcs
    obtain ⟨rfl, rfl, rfl⟩ := hcs
    exact ⟨[], rfl, ⟨[], View.nil _ _, rfl, fun j hj => by simp at hj⟩, fun _ => rfl, Nat.le_refl _, by unfold maxLen; omega⟩
  · simp at hcs
    obtain ⟨rfl, rfl, rfl⟩ := hcs
    simp only [if_true] at hmm
    have H1 : ∀ i, ∃ y : Value × List UInt8, i < len → W.cell? (a.add i) = some y.1 ∧ ∃ ba cb, y.1 = .slice ba y.2.length cb ∧ View W ba (bc y.2) ∧ (ba = none → y.2 = []) := by
      intro i
      by_cases hi : i < len
      · obtain ⟨cs', h1, h2⟩ := hall i (by omega)
        rw [hce, Nat.mul_one] at h1
        obtain ⟨v, rfl, hv⟩ := cells_one h1
        obtain ⟨ba, k, cb, rfl⟩ := slice_of_trod he h2
        obtain ⟨l, rfl, hV, hn, _, _⟩ := open_bytes_view he hb hcb h2
        exact ⟨(_, l), fun _ => ⟨hv, ba, cb, rfl, hV, fun h => List.eq_nil_of_length_eq_zero (hn h)⟩⟩
      · exact ⟨(.bool false, []), fun h => absurd h hi⟩
    obtain ⟨f, hf⟩ := Classical.skolem.1 H1
    refine ⟨(List.range len).map fun i => (f i).2, by simp, ⟨(List.range len).map fun i => (f i).1, view_of_cells fun i u hu => ?_, by simp, fun j hj => ?_⟩, (fun h => (by cases h)), hl, hm⟩
    · have hi : i < len := by have := (List.getElem?_eq_some_iff.1 hu).1; simpa using this
      rw [(hf i hi).1]
      simpa [hi] using hu
    · have hi : j < len := by simpa using hj
      obtain ⟨_, ba, cb, h1, h2, h3⟩ := hf j hi
      have e : el ((List.range len).map fun i => (f i).2) j = (f j).2 := by simp [el, List.getD, hi]
      rw [e]
      exact ⟨ba, cb, by simp [hi, h1], h2, h3⟩

theorem flags_fit (c : Nat) : ∃ fy : Int, bits .or .u8 (flagOf c) 16 = fy ∧ 0 ≤ fy ∧ fy < 256 ∧ 0 ≤ flagOf c ∧ flagOf c < 256 := by
  unfold flagOf
  split
  · exact ⟨80, by decide +kernel, by omega, by omega, by omega, by omega⟩
  · split
    · exact ⟨144, by decide +kernel, by omega, by omega, by omega, by omega⟩
    · split
      · exact ⟨208, by decide +kernel, by omega, by omega, by omega, by omega⟩
      · exact ⟨16, by decide +kernel, by omega, by omega, by omega, by omega⟩

set_option maxRecDepth 100000 in
theorem lifted (os : Os) (started : os.Started) (H : Type) (enc : TypeId × Value → H) :
    ReturnsInTold none {} Tryf.checked os 4 .any Input.okWide ((OpenSpec.ofChange Rows.propPackerGreedyPartitionWithinRoomFreeSpec).preRow enc Tryf.prog Tryf.f4 [] false Rows.propPackerGreedyPartitionWithinRoomFreeRow.laid) (fun F => ((OpenSpec.ofChange Rows.propPackerGreedyPartitionWithinRoomFreeSpec).at F).post enc Tryf.prog Tryf.f4 false true false false) (aloneAtReturn Tryf.prog) nothingAlways := by
  refine returnsInTold_of_row (C := Tryf.checked) (s := OpenSpec.ofChange Rows.propPackerGreedyPartitionWithinRoomFreeSpec) (by kernel_rfl) own started (by kernel_rfl) Tryf.func4
    (OpenSpec.witness_stopped_at (enc := enc) (C := Tryf.checked) false (laidWorldOf Tryf.prog os) #[.int .u8 0, .slice none 0 0, .slice none 0 0, .slice none 0 0] rfl (by kernel_rfl) (by kernel_rfl) (by kernel_rfl)
      (OpenSpec.preRow_of_B rfl 8 (by kernel_rfl) (by kernel_rfl) (laid_met os _))) ?_
  intro F W base args ds gs before _ hF hval0 hW _ _ _ hL _
  have hval : ∀ (j : Nat) t v, Tryf.f4.params[j]? = some t → args[j]? = some v → Value.okWide Tryf.prog W .any base t v := hval0
  have hW' := hW
  obtain ⟨p, q, hA0, hV0, rfl, hfz, hnd⟩ := hW
  have hA : DataW.TrodAll enc Tryf.prog W 0 (fun _ => true) true Tryf.f4.params.toList args.toList ds p := hA0
  have hV : DataW.TrodVars enc Tryf.prog W (fun _ => true) Rows.propPackerGreedyPartitionWithinRoomFreeSpec.vars gs q := hV0
  rw [Tryf.params4] at hA hval
  obtain ⟨v0, v1, v2, v3, d0, d1, d2, d3, p0, p1, p2, p3, rfl, rfl, rfl, h0, h1, h2, h3⟩ := trodAll_four hA
  obtain ⟨g1, rfl⟩ : ∃ g1, gs = [g1] := by
    cases gs with
    | nil => exact hV.elim
    | cons g gs' =>
      cases gs' with
      | nil => exact ⟨g, rfl⟩
      | cons _ _ =>
        obtain ⟨_, _, _, _, _, _, _, _, _, _, h, _⟩ := hV
        exact h.elim
  rw [laid_is] at hL
  have hT := Lib.tabIs_of_head gF gFType Tryf.underlying163 Tryf.underlying5 cells5 cells163 hL
  have k0 := h0
  have k1 := h1
  have k2 := h2
  have k3 := h3
  have lt0 : ∀ x ∈ p0, x.block < W.heap.size := by obtain ⟨m, hm⟩ := k0; exact DataW.trod_lt m _ _ _ hm
  have lt1 : ∀ x ∈ p1, x.block < W.heap.size := by obtain ⟨m, hm⟩ := k1; exact DataW.trod_lt m _ _ _ hm
  have lt2 : ∀ x ∈ p2, x.block < W.heap.size := by obtain ⟨m, hm⟩ := k2; exact DataW.trod_lt m _ _ _ hm
  have lt3 : ∀ x ∈ p3, x.block < W.heap.size := by obtain ⟨m, hm⟩ := k3; exact DataW.trod_lt m _ _ _ hm
  obtain ⟨m0, e0⟩ := h0
  obtain ⟨m1, e1⟩ := h1
  obtain ⟨m2, e2⟩ := h2
  obtain ⟨m3, e3⟩ := h3
  obtain ⟨c, rfl, -, -, wc⟩ := open_int Tryf.underlying5 (hval 0 5 v0 rfl rfl) k0
  obtain ⟨fa, len1, cf, rfl⟩ := okWide_slice Tryf.underlying23 (hval 1 23 v1 rfl rfl)
  obtain ⟨aa, len2, ca, rfl⟩ := okWide_slice Tryf.underlying23 (hval 2 23 v2 rfl rfl)
  obtain ⟨na, len3, nc, rfl⟩ := okWide_slice Tryf.underlying37 (hval 3 37 v3 rfl rfl)
  obtain ⟨fx, rfl, vw1, nl1, lc1, mx1⟩ := open_bytes_view Tryf.underlying23 Tryf.underlying5 cells5 e1
  obtain ⟨av, rfl, vw2, nl2, lc2, mx2⟩ := open_bytes_view Tryf.underlying23 Tryf.underlying5 cells5 e2
  obtain ⟨L, rfl, vw3, nl3, lc3, mx3⟩ := open_lists_view Tryf.underlying37 Tryf.underlying23 Tryf.underlying5 (by kernel_rfl) cells5 e3
  have bc := bounds_u8 wc
  obtain ⟨cn, rfl⟩ : ∃ cn : Nat, c = cn := ⟨c.toNat, by omega⟩
  have hcn : cn < 256 := by omega
  clear hA0 hval0 hV0
  have hg : W.cell? ⟨5, cn, none⟩ = some (.int .u8 (flagOf cn)) := by
    have := hT.cell gF cn (by simpa using hcn)
    simpa [List.getD, hcn] using this
  obtain ⟨fy, hfy, y0, y1, f0, f1⟩ := flags_fit cn
  refine (free_any (w := W) (fl := flagOf cn) (fy := fy) (cn := cn) hcn f0 f1 rfl hfy y0 y1 vw1 (fun h => List.eq_nil_of_length_eq_zero (nl1 h)) vw2 (fun h => List.eq_nil_of_length_eq_zero (nl2 h)) vw3 nl3 hg (World.block_lt_of_cell? W _ hg) cf ca nc (by unfold maxLen at mx1; omega) (by unfold maxLen at mx2; omega) (by unfold maxLen at mx3; omega)).mono fun e W' ⟨he, bel⟩ => ?_
  subst he
  refine ⟨_, rfl, _, _, _, [], _, q, hW', trodAll_mk1 (shut_bool Tryf.underlying4 _), trodAll_mk4 (Below.trod laidOut (by kernel_rfl) (of_decide_eq_true (by kernel_rfl)) k0 bel lt0) (Below.trod laidOut (by kernel_rfl) (of_decide_eq_true (by kernel_rfl)) k1 bel lt1) (Below.trod laidOut (by kernel_rfl) (of_decide_eq_true (by kernel_rfl)) k2 bel lt2) (Below.trod laidOut (by kernel_rfl) (of_decide_eq_true (by kernel_rfl)) k3 bel lt3), Below.trodVars laidOut bel (by kernel_rfl) hV, bel.frame _, fun h => by cases h⟩

theorem stops : Tryf.pinned.checked.prog.stops = Rows.propPackerGreedyPartitionWithinRoomFreeRow.stops := by kernel_rfl
theorem stopKnobs : Tryf.pinned.checked.prog.stopKnobs = [] := by kernel_rfl
theorem quiet (os : Os) : Stop.quiet Tryf.pinned.checked.prog os := by
  intro k hk
  rw [stopKnobs] at hk
  cases hk

end PaRow
open PaRow in
theorem packer_holds : Rows.PropPackerGreedyPartitionWithinRoomFreeToldSaid :=
  Claim7.holds_of_told_tied_any_at .later 4 Tryf.f4 _ _ [] _ _ _ _ _ (by kernel_rfl) rfl rfl rfl laidOut (by kernel_rfl) rfl ⟨rfl, rfl, rfl, rfl, rfl, rfl, rfl⟩ rfl rfl (by kernel_rfl) (by kernel_rfl) Tryf.func4 (by kernel_rfl)
    (of_decide_eq_true (by kernel_rfl)) (by unfold Func.isWrapper; first | (rw [if_pos (by decide +kernel)]; kernel_rfl) | (rw [if_neg (by decide +kernel)]; exact ⟨rfl, rfl⟩)) stops.symm rfl stopKnobs.symm (by kernel_rfl)
    (by kernel_rfl) (by kernel_rfl) (by kernel_rfl) (by kernel_rfl) (by kernel_rfl) (by kernel_rfl) (by kernel_rfl) (by kernel_rfl) (by kernel_rfl) rfl (by kernel_rfl) rfl rfl
    rfl rfl
    rfl (by kernel_rfl) (by kernel_rfl) (by kernel_rfl) (by decide) (by kernel_rfl) propPackerGreedyPartitionWithinRoomFree_row_tie
    (OpenClaim.moreEntering_of (by kernel_rfl) (by kernel_rfl) (by kernel_rfl) (by kernel_rfl) (by kernel_rfl) (by kernel_rfl) (by kernel_rfl) (by kernel_rfl) (by kernel_rfl) (by kernel_rfl))
    ⟨_, WideRow.started_initial, quiet _⟩
    (fun os started _ H enc _ => lifted os started H enc)

end Go.Proofs.Qxb6003713aFmt
