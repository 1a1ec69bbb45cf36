import Derived.Test.Qxb6003713aFmtBoF
import Derived.Test.Qxb6003713aFmtBoE
import Derived.Test.Qxb6003713aFmtRows
import Derived.Test.Qxb6003713aFmtTie
import Derived.Test.Qxb6003713aFmtCards
import Derived.LaidLaws
import Derived.Stop.JoinedTold
import Derived.Stop.JoinedAt
import Derived.Lib.LaidTab
import Derived.OpenVars
import Derived.SevenTiedAt
import Derived.ProofKit
import Derived.Deep.DeepWitnessRef
namespace Go.Proofs.Qxb6003713aFmt
open Go.ChangeShapes Go.WideShapes Go.ChangeAt Go.RowKit Go.Extern.Stop Go.Stop Go.Extern
set_option linter.unusedVariables false
set_option linter.unusedSimpArgs false
set_option linter.constructorNameAsVariable false

namespace AnRow
theorem own : ownKnob Tryf.prog.godebug = none := by kernel_rfl
theorem laidOut : laidOutB Tryf.prog = true := by kernel_rfl
abbrev nm (i : Nat) : String := (Rows.propAnnouncerWritesWhatMarshalWritesRow.laid.map (·.1)).getD i ""
theorem g4 : Tryf.prog.globalNamed (nm 0) = some 2 := by kernel_rfl
theorem g6 : Tryf.prog.globalNamed (nm 1) = some 3 := by kernel_rfl
theorem gF : Tryf.prog.globalNamed (nm 2) = some 5 := by kernel_rfl
theorem g0 : Tryf.prog.globalNamed (nm 3) = some 4 := by kernel_rfl
theorem t4 : (Tryf.prog.globals[2]?).map (·.type) = some 60 := by kernel_rfl
theorem t6 : (Tryf.prog.globals[3]?).map (·.type) = some 60 := by kernel_rfl
theorem t0 : (Tryf.prog.globals[4]?).map (·.type) = some 60 := by kernel_rfl
theorem tF : (Tryf.prog.globals[5]?).map (·.type) = some 163 := by kernel_rfl
theorem cells60 : Tryf.prog.cellsOf 60 = 1 := by kernel_rfl
theorem cells58 : Tryf.prog.cellsOf 58 = 1 := by kernel_rfl
theorem cells197 : Tryf.prog.cellsOf 197 = 2 := by kernel_rfl
theorem cells163 : Tryf.prog.cellsOf 163 = 256 := by kernel_rfl
abbrev flagTab : List Int := (List.range 256).map flagOf
theorem laid_is : Rows.propAnnouncerWritesWhatMarshalWritesRow.laid = [(nm 0, .agg [.ptr (.agg [.lit (.bool false), .lit (.string [])])]), (nm 1, .agg [.ptr (.agg [.lit (.bool true), .lit (.string [])])]), (nm 2, Lib.tabData .u8 flagTab), (nm 3, .agg [.nil])] := by kernel_rfl

theorem handle_some {W : World} {H : Type} {enc : TypeId × Value → H} {base fuel : Nat} {sp : Nat → Bool} {held : Bool} {cs : List Value} {d : DataW H} {p : List MemPlace}
    (h : DataW.trod enc Tryf.prog W base sp held fuel 60 cs = some (.agg [.ptr d], p)) : ∃ a q, cs = [.pointer (some a)] ∧ p = MemPlace.row a 2 ++ q := by
  obtain ⟨y0, n, hx, hl, hy⟩ := trod_struct1 Tryf.underlying60 h
  rw [cells60] at hl
  have hy' : DataW.trod enc Tryf.prog W base sp held n 58 (List.take (Tryf.prog.cellsOf 58) (List.drop 0 cs)) = some y0 := hy
  rw [cells58, List.drop_zero, List.take_of_length_le (by omega)] at hy'
  simp only [Prod.mk.injEq, DataW.agg.injEq, List.cons.injEq, and_true] at hx
  obtain ⟨h1, rfl⟩ := hx
  obtain ⟨d0, p0⟩ := y0
  simp only at h1
  subst h1
  obtain ⟨f', a, cs', q, rfl, -, -, hp⟩ := ptr_of_trod Tryf.underlying58 hy'
  rw [show Tryf.prog.cellsOf 197 = 2 from cells197] at hp
  exact ⟨a, q, rfl, hp⟩
set_option maxRecDepth 100000 in
theorem handle_nil {W : World} {H : Type} {enc : TypeId × Value → H} {base fuel : Nat} {sp : Nat → Bool} {held : Bool} {cs : List Value} {p : List MemPlace}
    (h : DataW.trod enc Tryf.prog W base sp held fuel 60 cs = some (.agg [.nil], p)) : cs = [.pointer none] := by
  obtain ⟨y0, n, hx, hl, hy⟩ := trod_struct1 Tryf.underlying60 h
  rw [cells60] at hl
  have hy' : DataW.trod enc Tryf.prog W base sp held n 58 (List.take (Tryf.prog.cellsOf 58) (List.drop 0 cs)) = some y0 := hy
  rw [cells58, List.drop_zero, List.take_of_length_le (by omega)] at hy'
  simp only [Prod.mk.injEq, DataW.agg.injEq, List.cons.injEq, and_true] at hx
  obtain ⟨h1, rfl⟩ := hx
  obtain ⟨d0, p0⟩ := y0
  simp only at h1
  subst h1
  cases n with
  | zero => simp [DataW.trod] at hy'
  | succ n =>
    match cs, hl with
    | [c], _ =>
      cases c with
      | pointer o =>
        cases o with
        | none => rfl
        | some a => simp [DataW.trod, Tryf.underlying58, Option.bind_eq_some_iff, Function.comp, Option.map_eq_some_iff] at hy'
      | _ => simp [DataW.trod, Tryf.underlying58] at hy'

set_option maxRecDepth 100000 in
theorem of_laid {W : World} (h : laidMet Tryf.prog Rows.propAnnouncerWritesWhatMarshalWritesRow.laid W) : (∃ p4 p6, Zs W p4 p6) ∧ Fl W := by
  rw [laid_is] at h
  obtain ⟨ps, ⟨q4, u4, cs4, f4, p4, r4, hg4, ht4, hv4, hd4, ⟨q6, u6, cs6, f6, p6, r6, hg6, ht6, hv6, hd6, ⟨qF, uF, csF, fF, pF, rF, hgF, htF, hvF, hdF, ⟨q0, u0, cs0, f0, p0, r0, hg0, ht0, hv0, hd0, hr0, e0⟩, eF⟩, e6⟩, e4⟩, hnd, hrows⟩ := h
  obtain rfl := Option.some.inj (g4.symm.trans hg4)
  obtain rfl := Option.some.inj (g6.symm.trans hg6)
  obtain rfl := Option.some.inj (gF.symm.trans hgF)
  obtain rfl := Option.some.inj (g0.symm.trans hg0)
  obtain rfl := Option.some.inj (t4.symm.trans ht4)
  obtain rfl := Option.some.inj (t6.symm.trans ht6)
  obtain rfl := Option.some.inj (tF.symm.trans htF)
  obtain rfl := Option.some.inj (t0.symm.trans ht0)
  subst e0
  subst eF
  subst e6
  subst e4
  have hT : Lib.TabIs Tryf.prog W (nm 2) .u8 flagTab := by
    unfold Lib.TabIs
    rw [hvF, ← Lib.cells_of_tab Tryf.underlying163 Tryf.underlying5 cells5 cells163 hdF]
  have hFl : Fl W := by
    have hc : ∀ c, c < 256 → W.cell? ⟨5, c, none⟩ = some (.int .u8 (flagOf c)) := fun c hc => by
      have := hT.cell gF c (by simpa using hc)
      simpa [List.getD, hc] using this
    exact ⟨World.block_lt_of_cell? W _ (hc 0 (by omega)), hc⟩
  obtain ⟨l4⟩ := cs4
  obtain ⟨l6⟩ := cs6
  obtain ⟨l0⟩ := cs0
  obtain ⟨a4, k4, rfl, rfl⟩ := handle_some hd4
  obtain ⟨a6, k6, rfl, rfl⟩ := handle_some hd6
  obtain rfl := handle_nil hd0
  have c4 : W.cell? ⟨2, 0, none⟩ = some (.pointer (some a4)) := by simpa using World.var?_cell g4 hv4 0
  have c6 : W.cell? ⟨3, 0, none⟩ = some (.pointer (some a6)) := by simpa using World.var?_cell g6 hv6 0
  have c0 : W.cell? ⟨4, 0, none⟩ = some (.pointer none) := by simpa using World.var?_cell g0 hv0 0
  have b4 := (hrows a4.block a4.off (by simp [MemPlace.row, List.range_succ])).1
  have b6 := (hrows a6.block a6.off (by simp [MemPlace.row, List.range_succ])).1
  refine ⟨⟨a4, a6, c4, c6, c0, ?_, b4, b6⟩, hFl⟩
  rintro rfl
  simp [MemPlace.row, List.range_succ] at hnd

abbrev lowOf (P : Program) : Nat := (World.holding P default ⟨#[], #[], []⟩).heap.size
def laidWorldOf (P : Program) (os : Os) : World :=
  let w0 := World.holding P os ⟨#[.cells #[.bool false, .string ⟨#[]⟩] 197, .cells #[.bool true, .string ⟨#[]⟩] 197], #[], []⟩
  { w0 with heap := ((w0.heap.modify 2 fun
      | .cells _ t frozen => .cells #[.pointer (some ⟨lowOf P, 0, none⟩)] t frozen
      | o => o).modify 3 fun
      | .cells _ t frozen => .cells #[.pointer (some ⟨lowOf P + 1, 0, none⟩)] t frozen
      | o => o).modify 5 fun
      | .cells _ t frozen => .cells (flagTab.map fun z => Value.int .u8 z).toArray t frozen
      | o => o }
theorem laid_met (os : Os) (args : Array Value) : laidMet Tryf.prog Rows.propAnnouncerWritesWhatMarshalWritesRow.laid ((laidWorldOf Tryf.prog os).forCall (fun _ _ => 0) ⟨#[], args, []⟩).memory :=
  laidMet_of_run' 8 (by kernel_rfl) (by kernel_rfl)

theorem open_ar16 {H : Type} {enc : TypeId × Value → H} {W : World} {r : Reach} {b0 base m : Nat} {sp : Nat → Bool} {held : Bool} {v : Value} {x : DataW H × List MemPlace}
    (hval : Value.okWide Tryf.prog W r b0 39 v) (hd : DataW.trod enc Tryf.prog W base sp held m 39 v.cells.toList = some x) : ∃ o : Nat → UInt8, v = .agg (ar16 o) := by
  simp only [Value.okWide, Tryf.underlying39] at hval
  obtain ⟨cs, rfl, hsz, _⟩ := hval
  rw [cells39] at hsz
  obtain ⟨o, ho⟩ := open_arr Tryf.underlying39 hd
  refine ⟨o, congrArg Value.agg (Array.ext_getElem? fun i => ?_)⟩
  by_cases hi : i < 16
  · have h1 : cs.toList[i]? = some (.int .u8 (o i).toNat) := ho i hi
    have h2 : cs[i]? = some (.int .u8 (o i).toNat) := by simpa using h1
    rw [h2]
    match i, hi with
    | 0, _ => rfl
    | 1, _ => rfl
    | 2, _ => rfl
    | 3, _ => rfl
    | 4, _ => rfl
    | 5, _ => rfl
    | 6, _ => rfl
    | 7, _ => rfl
    | 8, _ => rfl
    | 9, _ => rfl
    | 10, _ => rfl
    | 11, _ => rfl
    | 12, _ => rfl
    | 13, _ => rfl
    | 14, _ => rfl
    | 15, _ => rfl
    | i + 16, h => exact absurd h (by omega)
  · rw [Array.getElem?_eq_none (by omega), Array.getElem?_eq_none (by simp; omega)]

theorem trodAll_six {H : Type} {enc : TypeId × Value → H} {P : Program} {w : World} {base : Nat} {spare : Nat → Bool} {held : Bool} {t0 t1 t2 t3 t4 t5 : TypeId} {args : Array Value} {ds : List (DataW H)} {ps : List MemPlace}
    (h : DataW.TrodAll enc P w base spare held [t0, t1, t2, t3, t4, t5] args.toList ds ps) :
    ∃ v0 v1 v2 v3 v4 v5 d0 d1 d2 d3 d4 d5 p0 p1 p2 p3 p4 p5, args = #[v0, v1, v2, v3, v4, v5] ∧ ds = [d0, d1, d2, d3, d4, d5] ∧ ps = p0 ++ (p1 ++ (p2 ++ (p3 ++ (p4 ++ (p5 ++ ([])))))) ∧ DataW.Trod enc P w base spare held t0 v0 d0 p0 ∧ DataW.Trod enc P w base spare held t1 v1 d1 p1 ∧ DataW.Trod enc P w base spare held t2 v2 d2 p2 ∧ DataW.Trod enc P w base spare held t3 v3 d3 p3 ∧ DataW.Trod enc P w base spare held t4 v4 d4 p4 ∧ DataW.Trod enc P w base spare held t5 v5 d5 p5 := by
  obtain ⟨l⟩ := args
  obtain ⟨v0, vs0, d0, ds0, p0, q0, hl, rfl, rfl, h0, hA0⟩ := trodAll_cons h
  simp only at hl
  subst hl
  obtain ⟨v1, vs1, d1, ds1, p1, q1, rfl, rfl, rfl, h1, hA1⟩ := trodAll_cons hA0
  obtain ⟨v2, vs2, d2, ds2, p2, q2, rfl, rfl, rfl, h2, hA2⟩ := trodAll_cons hA1
  obtain ⟨v3, vs3, d3, ds3, p3, q3, rfl, rfl, rfl, h3, hA3⟩ := trodAll_cons hA2
  obtain ⟨v4, vs4, d4, ds4, p4, q4, rfl, rfl, rfl, h4, hA4⟩ := trodAll_cons hA3
  obtain ⟨v5, vs5, d5, ds5, p5, q5, rfl, rfl, rfl, h5, hA5⟩ := trodAll_cons hA4
  obtain ⟨rfl, rfl, rfl⟩ := trodAll_nil hA5
  exact ⟨v0, v1, v2, v3, v4, v5, d0, d1, d2, d3, d4, d5, p0, p1, p2, p3, p4, p5, rfl, rfl, rfl, h0, h1, h2, h3, h4, h5⟩


set_option maxRecDepth 100000 in
theorem lifted (os : Os) (started : os.Started) (H : Type) (enc : TypeId × Value → H) :
    ReturnsInTold none {} Tryf.checked os 5 .any Input.okWide ((OpenSpec.ofChange Rows.propAnnouncerWritesWhatMarshalWritesSpec).preRow enc Tryf.prog Tryf.f5 [] false Rows.propAnnouncerWritesWhatMarshalWritesRow.laid) (fun F => ((OpenSpec.ofChange Rows.propAnnouncerWritesWhatMarshalWritesSpec).at F).post enc Tryf.prog Tryf.f5 false true false false) (aloneAtReturn Tryf.prog) nothingAlways := by
  refine returnsInTold_of_row (C := Tryf.checked) (s := OpenSpec.ofChange Rows.propAnnouncerWritesWhatMarshalWritesSpec) (by kernel_rfl) own started (by kernel_rfl) Tryf.func5
    (OpenSpec.witness_stopped_atRef (enc := enc) (C := Tryf.checked) false (laidWorldOf Tryf.prog os) #[.int .u8 0, .agg (ar16 fun _ => 0), .slice none 0 0, .pointer none, .agg #[.int .u32 0, .int .u32 0, .bool false], .slice none 0 0] rfl (by kernel_rfl) (by kernel_rfl) (by kernel_rfl)
      (OpenSpec.preRow_of_B rfl 8 (by kernel_rfl) (by kernel_rfl) (laid_met os _))) ?_
  intro F W base args ds gs before _ hF hval0 hW _ _ _ hL _
  have hval : ∀ (j : Nat) t v, Tryf.f5.params[j]? = some t → args[j]? = some v → Value.okWide Tryf.prog W .any base t v := hval0
  have hW' := hW
  obtain ⟨p, q, hA0, hV0, rfl, hfz, hnd⟩ := hW
  have hA : DataW.TrodAll enc Tryf.prog W 0 (fun _ => true) true Tryf.f5.params.toList args.toList ds p := hA0
  have hV : DataW.TrodVars enc Tryf.prog W (fun _ => true) Rows.propAnnouncerWritesWhatMarshalWritesSpec.vars gs q := hV0
  rw [Tryf.params5] at hA hval
  obtain ⟨v0, v1, v2, v3, v4, v5, d0, d1, d2, d3, d4, d5, p0, p1, p2, p3, p4, p5, rfl, rfl, rfl, h0, h1, h2, h3, h4, h5⟩ := trodAll_six hA
  obtain ⟨g1, rfl⟩ : ∃ g1, gs = [g1] := by
    cases gs with
    | nil => exact hV.elim
    | cons g gs' =>
      cases gs' with
      | nil => exact ⟨g, rfl⟩
      | cons _ _ =>
        obtain ⟨_, _, _, _, _, _, _, _, _, _, h, _⟩ := hV
        exact h.elim
  have k0 := h0
  have lt0 : ∀ x ∈ p0, x.block < W.heap.size := by obtain ⟨m, hm⟩ := k0; exact DataW.trod_lt m _ _ _ hm
  obtain ⟨m0, e0⟩ := h0
  have k1 := h1
  have lt1 : ∀ x ∈ p1, x.block < W.heap.size := by obtain ⟨m, hm⟩ := k1; exact DataW.trod_lt m _ _ _ hm
  obtain ⟨m1, e1⟩ := h1
  have k2 := h2
  have lt2 : ∀ x ∈ p2, x.block < W.heap.size := by obtain ⟨m, hm⟩ := k2; exact DataW.trod_lt m _ _ _ hm
  obtain ⟨m2, e2⟩ := h2
  have k3 := h3
  have lt3 : ∀ x ∈ p3, x.block < W.heap.size := by obtain ⟨m, hm⟩ := k3; exact DataW.trod_lt m _ _ _ hm
  obtain ⟨m3, e3⟩ := h3
  have k4 := h4
  have lt4 : ∀ x ∈ p4, x.block < W.heap.size := by obtain ⟨m, hm⟩ := k4; exact DataW.trod_lt m _ _ _ hm
  obtain ⟨m4, e4⟩ := h4
  have k5 := h5
  have lt5 : ∀ x ∈ p5, x.block < W.heap.size := by obtain ⟨m, hm⟩ := k5; exact DataW.trod_lt m _ _ _ hm
  obtain ⟨m5, e5⟩ := h5
  obtain ⟨n, rfl, -, -, wn⟩ := open_int Tryf.underlying5 (hval 0 5 v0 rfl rfl) k0
  obtain ⟨o, rfl⟩ := open_ar16 (hval 1 39 v1 rfl rfl) e1
  obtain ⟨ca, len2, cc, rfl⟩ := okWide_slice Tryf.underlying40 (hval 2 40 v2 rfl rfl)
  obtain ⟨ra, len5, rc, rfl⟩ := okWide_slice Tryf.underlying45 (hval 5 45 v5 rfl rfl)
  obtain ⟨cs, rfl, hcs⟩ := open_rows (A := Nat → UInt8) (base := 0) Tryf.underlying40 cells70 (by decide) (fun o' l => ∀ j, j < 8 → l[j]? = some (.int .u8 (o' j).toNat)) (fun h => open_arr Tryf.underlying70 h) e2
  obtain ⟨rs, rfl, hrs⟩ := open_rows (A := RI) (base := 0) Tryf.underlying45 cells53 (by decide) (fun r l => r.fine ∧ ∀ j, j < 46 → l[j]? = r.ins[j]?) (fun h => open_route h) e5
  have hcv : CV W ca cs := by
    rcases hcs with h | ⟨b, off, rfl, h⟩
    · exact .inl h
    · by_cases h0 : cs = []
      · exact .inl h0
      · have hcell : ∀ i (hi : i < cs.length), ∀ j, j < 8 → W.cell? ⟨b, off + i * 8 + j, none⟩ = some (.int .u8 (cs[i] j).toNat) := fun i hi j hj => by
          obtain ⟨l, hP, _, hc⟩ := h i cs[i] (List.getElem?_eq_getElem hi)
          obtain ⟨c, hc1, hc2⟩ := hc j hj
          rw [hP j hj] at hc1
          rw [hc2, hc1]
        refine .inr ⟨b, off, rfl, ?_, hcell⟩
        have := World.block_lt_of_cell? W _ (hcell 0 (List.length_pos_iff.2 h0) 0 (by omega))
        exact this
  have hrv : RV W ra rs ∧ ∀ r ∈ rs, r.fine := by
    rcases hrs with h | ⟨b, off, rfl, h⟩
    · exact ⟨.inl h, fun r hr => by rw [h] at hr; cases hr⟩
    · have hcell : ∀ i r, rs[i]? = some r → r.fine ∧ ∀ j, j < 46 → W.cell? ⟨b, off + i * 46 + j, none⟩ = r.ins[j]? := fun i r hi => by
        obtain ⟨l, hP, _, hc⟩ := h i r hi
        refine ⟨hP.1, fun j hj => ?_⟩
        obtain ⟨c, hc1, hc2⟩ := hc j hj
        rw [hc2, ← hc1]
        exact hP.2 j hj
      refine ⟨.inr ⟨b, off, rfl, fun i r hi => ⟨?_, fun j hj => (hcell i r hi).2 j hj⟩⟩, fun r hr => ?_⟩
      · have h0 := (hcell i r hi).2 0 (by omega)
        have h1 : r.ins[0]? = some (.int .u8 r.ty) := rfl
        rw [h1] at h0
        exact World.block_lt_of_cell? W _ h0
      · obtain ⟨i, hi, rfl⟩ := List.getElem_of_mem hr
        exact (hcell i _ (List.getElem?_eq_getElem hi)).1
  obtain ⟨pp, pm, rfl, hpv, hpm⟩ : ∃ pp pm, v3 = .pointer pp ∧ PMV W pp pm ∧ ∀ q', pm = some q' → q'.fl < 256 ∧ q'.tt < 256 ∧ q'.lb < 4294967296 := by
    rcases open_ptr Tryf.underlying41 (by rw [cells47]; omega) (hval 3 41 v3 rfl rfl) k3 with ⟨h, -, -⟩ | ⟨b, off, l, y, fuel, h, -, -, hl, hc, hd⟩
    · exact ⟨none, none, h, rfl, fun q' e => by cases e⟩
    · rw [cells47] at hl hc
      obtain ⟨xs, m, _, _, _, hxl, hf⟩ := DataW.trod_struct Tryf.underlying47 hd
      have hxl' : xs.length = 4 := hxl
      obtain ⟨y0, q0⟩ : ∃ y, xs[0]? = some y := ⟨_, List.getElem?_eq_getElem (by omega)⟩
      obtain ⟨y1, q1⟩ : ∃ y, xs[1]? = some y := ⟨_, List.getElem?_eq_getElem (by omega)⟩
      obtain ⟨y2, q2⟩ : ∃ y, xs[2]? = some y := ⟨_, List.getElem?_eq_getElem (by omega)⟩
      obtain ⟨y3, q3⟩ : ∃ y, xs[3]? = some y := ⟨_, List.getElem?_eq_getElem (by omega)⟩
      have f0 : DataW.trod enc Tryf.prog W 0 (fun _ => true) true m 5 ((l.drop 0).take (Tryf.prog.cellsOf 5)) = some y0 := (hf 0 _ rfl).trans q0
      rw [cells5] at f0
      have f1 : DataW.trod enc Tryf.prog W 0 (fun _ => true) true m 5 ((l.drop 1).take (Tryf.prog.cellsOf 5)) = some y1 := (hf 1 _ rfl).trans q1
      rw [cells5] at f1
      have f2 : DataW.trod enc Tryf.prog W 0 (fun _ => true) true m 42 ((l.drop 2).take (Tryf.prog.cellsOf 42)) = some y2 := (hf 2 _ rfl).trans q2
      rw [cells42] at f2
      have f3 : DataW.trod enc Tryf.prog W 0 (fun _ => true) true m 23 ((l.drop 3).take (Tryf.prog.cellsOf 23)) = some y3 := (hf 3 _ rfl).trans q3
      rw [cells23] at f3
      obtain ⟨z0, e0', -, w0⟩ := DataW.trod_int Tryf.underlying5 f0
      obtain ⟨z1, e1', -, w1⟩ := DataW.trod_int Tryf.underlying5 f1
      obtain ⟨z2, e2', -, w2⟩ := DataW.trod_int Tryf.underlying42 f2
      obtain ⟨ta, tl, tc, hta⟩ : ∃ a len cap, (l.drop 3).take 1 = [.slice a len cap] := by
        rcases Go.Deep.open_slice Tryf.underlying23 f3 with ⟨h, _⟩ | ⟨a, l', c', _, _, _, _, h, _⟩
        · exact ⟨_, _, _, h⟩
        · exact ⟨_, _, _, h⟩
      have f3' := f3
      rw [show (List.take 1 (List.drop 3 l)) = [Value.slice ta tl tc] from hta] at f3'
      obtain ⟨tid, rfl, hV, hn, _, _⟩ := open_bytes_view Tryf.underlying23 Tryf.underlying5 cells5 f3'
      have b0 := bounds_u8 w0
      have b1 := bounds_u8 w1
      have b2 := bounds_u32 w2
      obtain ⟨n0, rfl⟩ : ∃ n : Nat, z0 = n := ⟨z0.toNat, by omega⟩
      obtain ⟨n1, rfl⟩ : ∃ n : Nat, z1 = n := ⟨z1.toNat, by omega⟩
      obtain ⟨n2, rfl⟩ : ∃ n : Nat, z2 = n := ⟨z2.toNat, by omega⟩
      refine ⟨some ⟨b, off, none⟩, some ⟨n0, n1, n2, tid⟩, h, ⟨b, off, ta, tc, rfl, (hc 0 (by omega)).trans (one_at e0'), (hc 1 (by omega)).trans (one_at e1'), (hc 2 (by omega)).trans (one_at e2'), (hc 3 (by omega)).trans (one_at hta), hV, fun e => List.eq_nil_of_length_eq_zero (hn e)⟩, fun q' e => ?_⟩
      cases e
      exact ⟨by show n0 < 256; omega, by show n1 < 256; omega, by show n2 < _; omega⟩
  obtain ⟨u0, u1, u2, y0, y1, y2, n0, rfl, rfl, rfl, s0, s1, s2⟩ := Joins.open_agg3 Tryf.underlying44 (by kernel_rfl) (by kernel_rfl) (hval 4 44 v4 rfl rfl) k4
  obtain ⟨la, hla, _, wla⟩ := DataW.trod_int Tryf.underlying42 s0
  obtain ⟨pa, hpa, _, wpa⟩ := DataW.trod_int Tryf.underlying42 s1
  obtain ⟨a4, ha4, _⟩ := DataW.trod_bool Tryf.underlying4 s2
  simp only [List.cons.injEq, and_true] at hla hpa ha4
  subst hla hpa ha4
  have bn := bounds_u8 wn
  have bla := bounds_u32 wla
  have bpa := bounds_u32 wpa
  obtain ⟨n, rfl⟩ : ∃ x : Nat, n = x := ⟨n.toNat, by omega⟩
  obtain ⟨la, rfl⟩ : ∃ x : Nat, la = x := ⟨la.toNat, by omega⟩
  obtain ⟨pa, rfl⟩ : ∃ x : Nat, pa = x := ⟨pa.toNat, by omega⟩
  clear hA0 hval0 hV0
  rw [MakeChecks.laidMetH_plain _ _ _ (by kernel_rfl)] at hL
  obtain ⟨⟨z4, z6, hz⟩, hfl⟩ := of_laid hL
  refine (ann_any n la pa a4 o z4 z6 ca cc cs pp pm ra rc rs W hfl hz hcv hpv hrv.1 (by omega) hpm hrv.2).mono fun e W' ⟨he, bel⟩ => ?_
  subst he
  refine ⟨_, rfl, _, _, _, [], _, q, hW', trodAll_mk1 (shut_bool Tryf.underlying4 _), trodAll_cons_mk (Below.trod laidOut (by kernel_rfl) (of_decide_eq_true (by kernel_rfl)) k0 bel lt0) (trodAll_cons_mk (Below.trod laidOut (by kernel_rfl) (of_decide_eq_true (by kernel_rfl)) k1 bel lt1) (trodAll_cons_mk (Below.trod laidOut (by kernel_rfl) (of_decide_eq_true (by kernel_rfl)) k2 bel lt2) (trodAll_cons_mk (Below.trod laidOut (by kernel_rfl) (of_decide_eq_true (by kernel_rfl)) k3 bel lt3) (trodAll_cons_mk (Below.trod laidOut (by kernel_rfl) (of_decide_eq_true (by kernel_rfl)) k4 bel lt4) (trodAll_cons_mk (Below.trod laidOut (by kernel_rfl) (of_decide_eq_true (by kernel_rfl)) k5 bel lt5) (trodAll_mk0)))))), Below.trodVars laidOut bel (by kernel_rfl) hV, bel.frame _, fun h => by cases h⟩

theorem stops : Tryf.pinned.checked.prog.stops = Rows.propAnnouncerWritesWhatMarshalWritesRow.stops := by kernel_rfl
theorem stopKnobs : Tryf.pinned.checked.prog.stopKnobs = [] := by kernel_rfl
theorem quiet (os : Os) : Stop.quiet Tryf.pinned.checked.prog os := by
  intro k hk
  rw [stopKnobs] at hk
  cases hk

end AnRow
open AnRow in
theorem announcer_holds : Rows.PropAnnouncerWritesWhatMarshalWritesToldSaid :=
  Claim7.holds_of_told_tied_any_at .later 5 Tryf.f5 _ _ [] _ _ _ _ _ (by kernel_rfl) rfl rfl rfl laidOut (by kernel_rfl) rfl ⟨rfl, rfl, rfl, rfl, rfl, rfl, rfl⟩ rfl rfl (by kernel_rfl) (by kernel_rfl) Tryf.func5 (by kernel_rfl)
    (of_decide_eq_true (by kernel_rfl)) (by unfold Func.isWrapper; first | (rw [if_pos (by decide +kernel)]; kernel_rfl) | (rw [if_neg (by decide +kernel)]; exact ⟨rfl, rfl⟩)) stops.symm rfl stopKnobs.symm (by kernel_rfl)
    (by kernel_rfl) (by kernel_rfl) (by kernel_rfl) (by kernel_rfl) (by kernel_rfl) (by kernel_rfl) (by kernel_rfl) (by kernel_rfl) (by kernel_rfl) rfl (by kernel_rfl) rfl rfl
    rfl rfl
    rfl (by kernel_rfl) (by kernel_rfl) (by kernel_rfl) (by decide) (by kernel_rfl) propAnnouncerWritesWhatMarshalWrites_row_tie
    (OpenClaim.moreEntering_of (by kernel_rfl) (by kernel_rfl) (by kernel_rfl) (by kernel_rfl) (by kernel_rfl) (by kernel_rfl) (by kernel_rfl) (by kernel_rfl) (by kernel_rfl) (by kernel_rfl))
    ⟨_, WideRow.started_initial, quiet _⟩
    (fun os started _ H enc _ => lifted os started H enc)

end Go.Proofs.Qxb6003713aFmt
