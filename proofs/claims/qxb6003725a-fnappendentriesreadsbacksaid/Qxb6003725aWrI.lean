import Derived.Test.Qxb6003725aOpen
import Derived.Test.Qxb6003725aWrH
namespace Go.Proofs.Qxb6003725a.fnAppendEntriesReadsBack
open Go.ChangeShapes Go.WideShapes Go.ChangeAt Go.RowKit

theorem own : ownKnob Try.prog.godebug = none := by kernel_rfl
theorem laidOut : laidOutB Try.prog = true := by kernel_rfl

set_option maxRecDepth 100000 in
theorem lifted (os : Os) (started : os.Started) (H : Type) (enc : TypeId × Value → H) :
    ReturnsInHanded {} Try.checked os 5 .any (Rows.fnAppendEntriesReadsBackSpec.pre6 enc Try.prog Try.f5 Rows.fnAppendEntriesReadsBackRow.domain false) (Rows.fnAppendEntriesReadsBackSpec.post enc Try.prog Try.f5 false true false false) := by
  refine returnsInHanded_of_change (C := Try.checked) own started (by kernel_rfl) Try.func5
    (ChangeSpec.witness6 (enc := enc) (C := Try.checked) false ⟨#[], #[.slice none 0 0, .slice none 0 0, .slice none 0 0], []⟩ 8 (by kernel_rfl) (by kernel_rfl) (by kernel_rfl) (by kernel_rfl)) ?_
  intro W base args ds gs before hval0 hW hcnd _
  have hval : ∀ (j : Nat) t v, Try.f5.params[j]? = some t → args[j]? = some v → Value.okWide Try.prog W .any base t v := hval0
  have hW' := hW
  obtain ⟨p, q, hA0, hV, rfl, hfz, hnd⟩ := hW
  have hA : DataW.TrodAll enc Try.prog W 0 (fun _ => true) true Try.f5.params.toList args.toList ds p := hA0
  rw [Try.params5] at hA hval
  obtain ⟨v0, vs0, d0, ds0, p0, q0, hargs, rfl, rfl, h0, r0⟩ := trodAll_cons hA
  obtain ⟨v1, vs1, d1, ds1, p1, q1, rfl, rfl, rfl, h1, r1⟩ := trodAll_cons r0
  obtain ⟨v2, vs2, d2, ds2, p2, q2, rfl, rfl, rfl, h2, r2⟩ := trodAll_cons r1
  obtain ⟨rfl, rfl, rfl⟩ := trodAll_nil r2
  obtain rfl : args = #[v0, v1, v2] := by cases args; simp_all
  obtain ⟨rfl, rfl⟩ := trodVars_none hV
  obtain ⟨a0, len0, cap0, rfl⟩ := okWide_slice Try.underlying36 (hval 0 36 v0 rfl rfl)
  obtain ⟨a1, len1, cap1, rfl⟩ := okWide_slice Try.underlying22 (hval 1 22 v1 rfl rfl)
  obtain ⟨a2, len2, cap2, rfl⟩ := okWide_slice Try.underlying37 (hval 2 37 v2 rfl rfl)
  have k0 := h0
  have k1 := h1
  have k2 := h2
  have lt0 : ∀ x ∈ p0, x.block < W.heap.size := by obtain ⟨m, hm⟩ := k0; exact DataW.trod_lt m _ _ _ hm
  have lt1 : ∀ x ∈ p1, x.block < W.heap.size := by obtain ⟨m, hm⟩ := k1; exact DataW.trod_lt m _ _ _ hm
  have lt2 : ∀ x ∈ p2, x.block < W.heap.size := by obtain ⟨m, hm⟩ := k2; exact DataW.trod_lt m _ _ _ hm
  obtain ⟨f0, g0⟩ := h0
  obtain ⟨f1, g1⟩ := h1
  obtain ⟨f2, g2⟩ := h2
  obtain ⟨lb, rfl, vw0, n0, lc0, mx0⟩ := open_bytes_view Try.underlying36 Try.underlying5 (by kernel_rfl) (by simpa [Value.cells] using g0)
  obtain ⟨ss, rfl, vw1, n1, lc1, mx1, sz1⟩ := open_strs_view Try.underlying22 Try.underlying9 (by kernel_rfl) (by simpa [Value.cells] using g1)
  obtain ⟨zs, rfl, vw2, n2, lc2, mx2, wf2⟩ := open_ints_view Try.underlying37 Try.underlying42 (by kernel_rfl) (by simpa [Value.cells] using g2)
  clear hA0 hval0
  have hArgs : Args W a0 a1 a2 lb.length lb ss zs := {
    hb := vw0, hi := vw1, hn := vw2, lb := rfl, nilb := n0, nili := n1, niln := n2, maxb := by omega, maxi := by omega, maxn := by omega, maxs := sz1,
    nums := fun i => by
      by_cases hi : i < zs.length
      · have hm : zs.getD i 0 ∈ zs := by
          simp only [List.getD, List.getElem?_eq_getElem hi, Option.getD_some]
          exact List.getElem_mem hi
        have := bounds_u64 (wf2 _ hm)
        omega
      · simp only [List.getD, List.getElem?_eq_none (by omega : zs.length ≤ i), Option.getD_none]
        omega }
  refine (reads_any W a0 a1 a2 lb.length cap0 cap1 cap2 lb ss zs hArgs).mono fun e W' ⟨he, bel⟩ => ?_
  subst he
  exact ⟨_, rfl, _, _, _, [], _, [], hW', trodAll_mk1 (shut_bool Try.underlying4 _), (trodAll_cons_mk (Below.trod laidOut (by kernel_rfl) (of_decide_eq_true (by kernel_rfl)) k0 bel lt0) (trodAll_cons_mk (Below.trod laidOut (by kernel_rfl) (of_decide_eq_true (by kernel_rfl)) k1 bel lt1) (trodAll_cons_mk (Below.trod laidOut (by kernel_rfl) (of_decide_eq_true (by kernel_rfl)) k2 bel lt2) trodAll_mk0))), rfl, bel.frame _, fun h => by cases h⟩

theorem over : Rows.fnAppendEntriesReadsBackRow.holds Try.pinned (OpenSpec.ofChange Rows.fnAppendEntriesReadsBackSpec) :=
  OpenClaim.holds_of_wide 5 Try.f5 rfl rfl rfl rfl rfl rfl rfl ⟨rfl, rfl, rfl, rfl, rfl⟩ rfl rfl rfl rfl rfl (by kernel_rfl) Try.func5 (by kernel_rfl)
    (of_decide_eq_true (by kernel_rfl)) (by unfold Func.isWrapper; first | (rw [if_pos (by decide +kernel)]; kernel_rfl) | (rw [if_neg (by decide +kernel)]; exact ⟨rfl, rfl⟩))
    (fun os started H enc _ => lifted os started H enc)

end Go.Proofs.Qxb6003725a.fnAppendEntriesReadsBack

namespace Go.Proofs.Qxb6003725a
theorem readsBack_holds : Rows.FnAppendEntriesReadsBackSaid := fnAppendEntriesReadsBack.over
end Go.Proofs.Qxb6003725a
