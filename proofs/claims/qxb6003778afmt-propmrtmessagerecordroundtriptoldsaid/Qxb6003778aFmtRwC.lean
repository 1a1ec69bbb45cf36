import Derived.Test.Qxb6003778aFmtRwB
import Derived.Test.Qxb6003778aFmtRoC
import Derived.OpenShut
import Derived.Deep.DeepWitnessRef
namespace Go.Proofs.Qxb6003778aFmt
open Go.ChangeShapes Go.WideShapes Go.ChangeAt Go.RowKit Go.Extern.Stop Go.Stop Go.Extern
set_option linter.unusedVariables false
set_option linter.unusedSimpArgs false

namespace RwRow
theorem cells5 : Tryf.prog.cellsOf 5 = 1 := by kernel_rfl
theorem cells23 : Tryf.prog.cellsOf 23 = 16 := by kernel_rfl
theorem open_ar16 {H : Type} {enc : TypeId × Value → H} {W : World} {r : Reach} {b0 base m : Nat} {sp : Nat → Bool} {held : Bool} {v : Value} {x : DataW H × List MemPlace}
    (hval : Value.okWide Tryf.prog W r b0 23 v) (hd : DataW.trod enc Tryf.prog W base sp held m 23 v.cells.toList = some x) : ∃ o : Nat → UInt8, v = .agg (ar16 o) := by
  simp only [Value.okWide, Tryf.underlying23] at hval
  obtain ⟨cs, rfl, hsz, _⟩ := hval
  rw [cells23] at hsz
  obtain ⟨xs, m, _, _, _, hl, hel⟩ := DataW.trod_array Tryf.underlying23 hd
  have hz : ∀ i, ∃ b : UInt8, i < 16 → cs[i]? = some (.int .u8 b.toNat) := by
    intro i
    by_cases hi : i < 16
    · have hE := hel i hi
      rw [cells5, Nat.mul_one, List.getElem?_eq_getElem (by omega)] at hE
      obtain ⟨z, e1, _, wz⟩ := DataW.trod_int Tryf.underlying5 hE
      have bz := bounds_u8 wz
      refine ⟨UInt8.ofNat z.toNat, fun _ => ?_⟩
      have h0 : ((cs.toList.drop i).take 1)[0]? = some (.int .u8 z) := by
        have e1' : (cs.toList.drop i).take 1 = [.int .u8 z] := e1
        rw [e1']; rfl
      have h1 : cs[i]? = some (.int .u8 z) := by simpa using h0
      rw [h1]
      have : ((UInt8.ofNat z.toNat).toNat : Int) = z := by
        rw [UInt8.toNat_ofNat']
        omega
      rw [this]
    · exact ⟨0, fun h => absurd h hi⟩
  obtain ⟨o, ho⟩ := Classical.skolem.1 hz
  refine ⟨o, congrArg Value.agg (Array.ext_getElem? fun i => ?_)⟩
  by_cases hi : i < 16
  · rw [ho i hi]
    match i, hi with
    | 0, _ => rfl
    | 1, _ => rfl
    | 2, _ => rfl
    | 3, _ => rfl
    | 4, _ => rfl
    | 5, _ => rfl
    | 6, _ => rfl
    | 7, _ => rfl
    | 8, _ => rfl
    | 9, _ => rfl
    | 10, _ => rfl
    | 11, _ => rfl
    | 12, _ => rfl
    | 13, _ => rfl
    | 14, _ => rfl
    | 15, _ => rfl
    | i + 16, h => exact absurd h (by omega)
  · rw [Array.getElem?_eq_none (by omega), Array.getElem?_eq_none (by simp; omega)]

theorem trodAll_ten {H : Type} {enc : TypeId × Value → H} {P : Program} {w : World} {base : Nat} {spare : Nat → Bool} {held : Bool} {t0 t1 t2 t3 t4 t5 t6 t7 t8 t9 : TypeId} {args : Array Value} {ds : List (DataW H)} {ps : List MemPlace}
    (h : DataW.TrodAll enc P w base spare held [t0, t1, t2, t3, t4, t5, t6, t7, t8, t9] args.toList ds ps) :
    ∃ v0 v1 v2 v3 v4 v5 v6 v7 v8 v9 d0 d1 d2 d3 d4 d5 d6 d7 d8 d9 p0 p1 p2 p3 p4 p5 p6 p7 p8 p9, args = #[v0, v1, v2, v3, v4, v5, v6, v7, v8, v9] ∧ ds = [d0, d1, d2, d3, d4, d5, d6, d7, d8, d9] ∧ ps = p0 ++ (p1 ++ (p2 ++ (p3 ++ (p4 ++ (p5 ++ (p6 ++ (p7 ++ (p8 ++ (p9 ++ ([])))))))))) ∧ DataW.Trod enc P w base spare held t0 v0 d0 p0 ∧ DataW.Trod enc P w base spare held t1 v1 d1 p1 ∧ DataW.Trod enc P w base spare held t2 v2 d2 p2 ∧ DataW.Trod enc P w base spare held t3 v3 d3 p3 ∧ DataW.Trod enc P w base spare held t4 v4 d4 p4 ∧ DataW.Trod enc P w base spare held t5 v5 d5 p5 ∧ DataW.Trod enc P w base spare held t6 v6 d6 p6 ∧ DataW.Trod enc P w base spare held t7 v7 d7 p7 ∧ DataW.Trod enc P w base spare held t8 v8 d8 p8 ∧ DataW.Trod enc P w base spare held t9 v9 d9 p9 := by
  obtain ⟨l⟩ := args
  obtain ⟨v0, vs0, d0, ds0, p0, q0, hl, rfl, rfl, h0, hA0⟩ := trodAll_cons h
  simp only at hl
  subst hl
  obtain ⟨v1, vs1, d1, ds1, p1, q1, rfl, rfl, rfl, h1, hA1⟩ := trodAll_cons hA0
  obtain ⟨v2, vs2, d2, ds2, p2, q2, rfl, rfl, rfl, h2, hA2⟩ := trodAll_cons hA1
  obtain ⟨v3, vs3, d3, ds3, p3, q3, rfl, rfl, rfl, h3, hA3⟩ := trodAll_cons hA2
  obtain ⟨v4, vs4, d4, ds4, p4, q4, rfl, rfl, rfl, h4, hA4⟩ := trodAll_cons hA3
  obtain ⟨v5, vs5, d5, ds5, p5, q5, rfl, rfl, rfl, h5, hA5⟩ := trodAll_cons hA4
  obtain ⟨v6, vs6, d6, ds6, p6, q6, rfl, rfl, rfl, h6, hA6⟩ := trodAll_cons hA5
  obtain ⟨v7, vs7, d7, ds7, p7, q7, rfl, rfl, rfl, h7, hA7⟩ := trodAll_cons hA6
  obtain ⟨v8, vs8, d8, ds8, p8, q8, rfl, rfl, rfl, h8, hA8⟩ := trodAll_cons hA7
  obtain ⟨v9, vs9, d9, ds9, p9, q9, rfl, rfl, rfl, h9, hA9⟩ := trodAll_cons hA8
  obtain ⟨rfl, rfl, rfl⟩ := trodAll_nil hA9
  exact ⟨v0, v1, v2, v3, v4, v5, v6, v7, v8, v9, d0, d1, d2, d3, d4, d5, d6, d7, d8, d9, p0, p1, p2, p3, p4, p5, p6, p7, p8, p9, rfl, rfl, rfl, h0, h1, h2, h3, h4, h5, h6, h7, h8, h9⟩

set_option maxRecDepth 100000 in
theorem lifted (os : Os) (started : os.Started) (H : Type) (enc : TypeId × Value → H) :
    ReturnsInTold none {} Tryf.checked os 3 .any Input.okWide ((OpenSpec.ofChange Rows.propMRTMessageRecordRoundTripSpec).preRow enc Tryf.prog Tryf.f3 [] false Rows.propMRTMessageRecordRoundTripRow.laid) (fun F => ((OpenSpec.ofChange Rows.propMRTMessageRecordRoundTripSpec).at F).post enc Tryf.prog Tryf.f3 false true false false) (aloneAtReturn Tryf.prog) nothingAlways := by
  refine returnsInTold_of_row (C := Tryf.checked) (s := OpenSpec.ofChange Rows.propMRTMessageRecordRoundTripSpec) (by kernel_rfl) own started (by kernel_rfl) Tryf.func3
    (OpenSpec.witness_stopped_atRef (enc := enc) (C := Tryf.checked) false (laidWorldOf Tryf.prog os) #[.int .u32 0, .int .u32 0, .int .u8 0, .agg (ar16 fun _ => 0), .int .u8 0, .agg (ar16 fun _ => 0), .bool false, .bool false, .slice none 0 0, .int .u32 0] rfl (by kernel_rfl) (by kernel_rfl) (by kernel_rfl)
      (OpenSpec.preRow_of_B rfl 8 (by kernel_rfl) (by kernel_rfl) (laid_met os _))) ?_
  intro F W base args ds gs before _ hF hval0 hW _ _ _ hL _
  have hval : ∀ (j : Nat) t v, Tryf.f3.params[j]? = some t → args[j]? = some v → Value.okWide Tryf.prog W .any base t v := hval0
  have hW' := hW
  obtain ⟨p, q, hA0, hV0, rfl, hfz, hnd⟩ := hW
  have hA : DataW.TrodAll enc Tryf.prog W 0 (fun _ => true) true Tryf.f3.params.toList args.toList ds p := hA0
  have hV : DataW.TrodVars enc Tryf.prog W (fun _ => true) Rows.propMRTMessageRecordRoundTripSpec.vars gs q := hV0
  rw [Tryf.params3] at hA hval
  have hgs := trodVars_none (show DataW.TrodVars enc Tryf.prog W (fun _ => true) [] gs q from hV)
  obtain ⟨rfl, rfl⟩ := hgs
  obtain ⟨v0, v1, v2, v3, v4, v5, v6, v7, v8, v9, d0, d1, d2, d3, d4, d5, d6, d7, d8, d9, p0, p1, p2, p3, p4, p5, p6, p7, p8, p9, rfl, rfl, rfl, h0, h1, h2, h3, h4, h5, h6, h7, h8, h9⟩ := trodAll_ten hA
  have k0 := h0
  have lt0 : ∀ x ∈ p0, x.block < W.heap.size := by obtain ⟨m, hm⟩ := k0; exact DataW.trod_lt m _ _ _ hm
  obtain ⟨m0, e0⟩ := h0
  have k1 := h1
  have lt1 : ∀ x ∈ p1, x.block < W.heap.size := by obtain ⟨m, hm⟩ := k1; exact DataW.trod_lt m _ _ _ hm
  obtain ⟨m1, e1⟩ := h1
  have k2 := h2
  have lt2 : ∀ x ∈ p2, x.block < W.heap.size := by obtain ⟨m, hm⟩ := k2; exact DataW.trod_lt m _ _ _ hm
  obtain ⟨m2, e2⟩ := h2
  have k3 := h3
  have lt3 : ∀ x ∈ p3, x.block < W.heap.size := by obtain ⟨m, hm⟩ := k3; exact DataW.trod_lt m _ _ _ hm
  obtain ⟨m3, e3⟩ := h3
  have k4 := h4
  have lt4 : ∀ x ∈ p4, x.block < W.heap.size := by obtain ⟨m, hm⟩ := k4; exact DataW.trod_lt m _ _ _ hm
  obtain ⟨m4, e4⟩ := h4
  have k5 := h5
  have lt5 : ∀ x ∈ p5, x.block < W.heap.size := by obtain ⟨m, hm⟩ := k5; exact DataW.trod_lt m _ _ _ hm
  obtain ⟨m5, e5⟩ := h5
  have k6 := h6
  have lt6 : ∀ x ∈ p6, x.block < W.heap.size := by obtain ⟨m, hm⟩ := k6; exact DataW.trod_lt m _ _ _ hm
  obtain ⟨m6, e6⟩ := h6
  have k7 := h7
  have lt7 : ∀ x ∈ p7, x.block < W.heap.size := by obtain ⟨m, hm⟩ := k7; exact DataW.trod_lt m _ _ _ hm
  obtain ⟨m7, e7⟩ := h7
  have k8 := h8
  have lt8 : ∀ x ∈ p8, x.block < W.heap.size := by obtain ⟨m, hm⟩ := k8; exact DataW.trod_lt m _ _ _ hm
  obtain ⟨m8, e8⟩ := h8
  have k9 := h9
  have lt9 : ∀ x ∈ p9, x.block < W.heap.size := by obtain ⟨m, hm⟩ := k9; exact DataW.trod_lt m _ _ _ hm
  obtain ⟨m9, e9⟩ := h9
  obtain ⟨pa, rfl, -, -, wpa⟩ := open_int Tryf.underlying22 (hval 0 22 v0 rfl rfl) k0
  obtain ⟨la, rfl, -, -, wla⟩ := open_int Tryf.underlying22 (hval 1 22 v1 rfl rfl) k1
  obtain ⟨n1, rfl, -, -, wn1⟩ := open_int Tryf.underlying5 (hval 2 5 v2 rfl rfl) k2
  obtain ⟨o1, rfl⟩ := open_ar16 (hval 3 23 v3 rfl rfl) e3
  obtain ⟨n2, rfl, -, -, wn2⟩ := open_int Tryf.underlying5 (hval 4 5 v4 rfl rfl) k4
  obtain ⟨o2, rfl⟩ := open_ar16 (hval 5 23 v5 rfl rfl) e5
  obtain ⟨lc, rfl, -, -⟩ := open_bool Tryf.underlying4 (hval 6 4 v6 rfl rfl) k6
  obtain ⟨a4, rfl, -, -⟩ := open_bool Tryf.underlying4 (hval 7 4 v7 rfl rfl) k7
  obtain ⟨da, len, dc, rfl⟩ := okWide_slice Tryf.underlying24 (hval 8 24 v8 rfl rfl)
  obtain ⟨dat, rfl, vw, nl, lcp, mx⟩ := open_bytes_view Tryf.underlying24 Tryf.underlying5 cells5 e8
  obtain ⟨ts, rfl, -, -, wts⟩ := open_int Tryf.underlying22 (hval 9 22 v9 rfl rfl) k9
  have bpa := bounds_u32 wpa
  have bla := bounds_u32 wla
  have bn1 := bounds_u8 wn1
  have bn2 := bounds_u8 wn2
  obtain ⟨pa, rfl⟩ : ∃ x : Nat, pa = x := ⟨pa.toNat, by omega⟩
  obtain ⟨la, rfl⟩ : ∃ x : Nat, la = x := ⟨la.toNat, by omega⟩
  obtain ⟨n1, rfl⟩ : ∃ x : Nat, n1 = x := ⟨n1.toNat, by omega⟩
  obtain ⟨n2, rfl⟩ : ∃ x : Nat, n2 = x := ⟨n2.toNat, by omega⟩
  clear hA0 hval0 hV0
  rw [MakeChecks.laidMetH_plain _ _ _ (by kernel_rfl)] at hL
  obtain ⟨z4, z6, hz⟩ := zs_of_laid hL
  refine (root_any F.told n1 n2 pa la (by omega) (by omega) o1 o2 lc a4 da dat dc ts z4 z6 W hF hz vw (fun h => List.eq_nil_of_length_eq_zero (nl h))).mono fun e W' ⟨he, bel⟩ => ?_
  subst he
  refine ⟨_, rfl, _, _, _, [], _, [], hW', trodAll_mk1 (shut_bool Tryf.underlying4 _), trodAll_cons_mk (Below.trod laidOut (by kernel_rfl) (of_decide_eq_true (by kernel_rfl)) k0 bel lt0) (trodAll_cons_mk (Below.trod laidOut (by kernel_rfl) (of_decide_eq_true (by kernel_rfl)) k1 bel lt1) (trodAll_cons_mk (Below.trod laidOut (by kernel_rfl) (of_decide_eq_true (by kernel_rfl)) k2 bel lt2) (trodAll_cons_mk (Below.trod laidOut (by kernel_rfl) (of_decide_eq_true (by kernel_rfl)) k3 bel lt3) (trodAll_cons_mk (Below.trod laidOut (by kernel_rfl) (of_decide_eq_true (by kernel_rfl)) k4 bel lt4) (trodAll_cons_mk (Below.trod laidOut (by kernel_rfl) (of_decide_eq_true (by kernel_rfl)) k5 bel lt5) (trodAll_cons_mk (Below.trod laidOut (by kernel_rfl) (of_decide_eq_true (by kernel_rfl)) k6 bel lt6) (trodAll_cons_mk (Below.trod laidOut (by kernel_rfl) (of_decide_eq_true (by kernel_rfl)) k7 bel lt7) (trodAll_cons_mk (Below.trod laidOut (by kernel_rfl) (of_decide_eq_true (by kernel_rfl)) k8 bel lt8) (trodAll_cons_mk (Below.trod laidOut (by kernel_rfl) (of_decide_eq_true (by kernel_rfl)) k9 bel lt9) (trodAll_mk0)))))))))), Below.trodVars laidOut bel (by kernel_rfl) hV, bel.frame _, fun h => by cases h⟩

end RwRow
open RwRow in
theorem mrt_holds : Rows.PropMRTMessageRecordRoundTripToldSaid :=
  Claim7.holds_of_told_tied_any_at .later 3 Tryf.f3 _ _ [] _ _ _ _ _ (by kernel_rfl) rfl rfl rfl laidOut (by kernel_rfl) rfl ⟨rfl, rfl, rfl, rfl, rfl, rfl, rfl⟩ rfl rfl (by kernel_rfl) (by kernel_rfl) Tryf.func3 (by kernel_rfl)
    (of_decide_eq_true (by kernel_rfl)) (by unfold Func.isWrapper; first | (rw [if_pos (by decide +kernel)]; kernel_rfl) | (rw [if_neg (by decide +kernel)]; exact ⟨rfl, rfl⟩)) stops.symm rfl stopKnobs.symm (by kernel_rfl)
    (by kernel_rfl) (by kernel_rfl) (by kernel_rfl) (by kernel_rfl) (by kernel_rfl) (by kernel_rfl) (by kernel_rfl) (by kernel_rfl) (by kernel_rfl) rfl (by kernel_rfl) rfl rfl
    rfl rfl
    rfl (by kernel_rfl) (by kernel_rfl) (by kernel_rfl) (by decide) (by kernel_rfl) propMRTMessageRecordRoundTrip_row_tie
    (OpenClaim.moreEntering_of (by kernel_rfl) (by kernel_rfl) (by kernel_rfl) (by kernel_rfl) (by kernel_rfl) (by kernel_rfl) (by kernel_rfl) (by kernel_rfl) (by kernel_rfl) (by kernel_rfl))
    ⟨_, WideRow.started_initial, quiet _⟩
    (fun os started _ H enc _ => lifted os started H enc)

end Go.Proofs.Qxb6003778aFmt
