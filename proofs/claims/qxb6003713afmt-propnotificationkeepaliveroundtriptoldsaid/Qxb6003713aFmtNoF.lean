import Derived.Test.Qxb6003713aFmtNoE
namespace Go.Proofs.Qxb6003713aFmt
open Go.ChangeShapes Go.WideShapes Go.ChangeAt Go.RowKit Go.Extern.Stop Go.Stop Go.Extern

namespace NoRow

theorem slice_of_trod {H : Type} {enc : TypeId × Value → H} {P : Program} {w : World} {base n : Nat} {spare : Nat → Bool} {held : Bool} {t e : TypeId} {v : Value} {x : DataW H × List MemPlace} (ht : P.underlying t = some (.slice e)) (h : DataW.trod enc P w base spare held n t [v] = some x) : ∃ a len cap, v = .slice a len cap := by
  rcases Go.Deep.open_slice ht h with ⟨h, _⟩ | ⟨a, l, c, _, _, _, _, h, _⟩
  · simp only [List.cons.injEq, and_true] at h
    exact ⟨_, _, _, h⟩
  · simp only [List.cons.injEq, and_true] at h
    exact ⟨_, _, _, h⟩

set_option maxRecDepth 100000 in
theorem lifted (os : Os) (started : os.Started) (H : Type) (enc : TypeId × Value → H) :
    ReturnsInTold none {} Tryf.checked os 3 .any Input.okWide ((OpenSpec.ofChange Rows.propNotificationKeepaliveRoundTripSpec).preRow enc Tryf.prog Tryf.f3 [] false Rows.propNotificationKeepaliveRoundTripRow.laid) (fun F => ((OpenSpec.ofChange Rows.propNotificationKeepaliveRoundTripSpec).at F).post enc Tryf.prog Tryf.f3 false true false false) (aloneAtReturn Tryf.prog) nothingAlways := by
  refine returnsInTold_of_row (C := Tryf.checked) (s := OpenSpec.ofChange Rows.propNotificationKeepaliveRoundTripSpec) (by kernel_rfl) own started (by kernel_rfl) Tryf.func3
    (OpenSpec.witness_stopped_at (enc := enc) (C := Tryf.checked) false (laidWorldOf Tryf.prog os 0 errS) #[.agg #[.int .u8 0, .int .u8 0, .slice none 0 0], .slice none 0 0] rfl (by kernel_rfl) (by kernel_rfl) (by kernel_rfl)
      (OpenSpec.preRow_of_B rfl 8 (by kernel_rfl) (by kernel_rfl) (laid_met os _))) ?_
  intro F W base args ds gs before _ hF hval0 hW _ _ _ hL _
  have hval : ∀ (j : Nat) t v, Tryf.f3.params[j]? = some t → args[j]? = some v → Value.okWide Tryf.prog W .any base t v := hval0
  have hW' := hW
  obtain ⟨p, q, hA0, hV0, rfl, hfz, hnd⟩ := hW
  have hA : DataW.TrodAll enc Tryf.prog W 0 (fun _ => true) true Tryf.f3.params.toList args.toList ds p := hA0
  have hV : DataW.TrodVars enc Tryf.prog W (fun _ => true) Rows.propNotificationKeepaliveRoundTripSpec.vars gs q := hV0
  rw [Tryf.params3] at hA hval
  obtain ⟨v0, v1, d0, d1, p0, p1, rfl, rfl, rfl, h0, h1⟩ := trodAll_two hA
  obtain ⟨a1, s1, hv1, hc1, hs1, hz1⟩ := laid_sentinel hL gE gEType Tryf.underlying28 (row152 _ (by decide)) Tryf.underlying152 Tryf.underlying154 rfl rfl Tryf.underlying9 (by kernel_rfl) (by kernel_rfl)
  obtain ⟨g1, rfl⟩ : ∃ g1, gs = [g1] := by
    cases gs with
    | nil => exact hV.elim
    | cons g gs' =>
      cases gs' with
      | nil => exact ⟨g, rfl⟩
      | cons _ _ =>
        obtain ⟨_, _, _, _, _, _, _, _, _, _, h, _⟩ := hV
        exact h.elim
  have k0 := h0
  have k1 := h1
  have lt0 : ∀ x ∈ p0, x.block < W.heap.size := by obtain ⟨m, hm⟩ := k0; exact DataW.trod_lt m _ _ _ hm
  have lt1 : ∀ x ∈ p1, x.block < W.heap.size := by obtain ⟨m, hm⟩ := k1; exact DataW.trod_lt m _ _ _ hm
  obtain ⟨u0, u1, u2, y0, y1, y2, n0, rfl, rfl, rfl, e0, e1, e2⟩ := Joins.open_agg3 Tryf.underlying25 (by kernel_rfl) (by kernel_rfl) (hval 0 25 v0 rfl rfl) h0
  obtain ⟨c, hc, _, wc⟩ := DataW.trod_int Tryf.underlying22 e0
  obtain ⟨s, hs, _, ws⟩ := DataW.trod_int Tryf.underlying5 e1
  obtain ⟨ad, len0, cap0, rfl⟩ := slice_of_trod Tryf.underlying23 e2
  obtain ⟨ao, len1, cap1, rfl⟩ := okWide_slice Tryf.underlying23 (hval 1 23 v1 rfl rfl)
  obtain ⟨l, rfl, vw0, nl0, lc0, mx0⟩ := open_bytes_view Tryf.underlying23 Tryf.underlying5 (by kernel_rfl) e2
  simp only [List.cons.injEq, and_true] at hc hs
  subst hc hs
  have bc := bounds_u8 wc
  have bs := bounds_u8 ws
  clear hA0 hval0 hV0
  have hg1 : W.cell? ⟨0, 0, none⟩ = some (.iface 152 (.pointer (some a1))) := by simpa using World.var?_cell gE hv1 0
  refine (notif_any F.told c s ad cap0 l ao len1 cap1 s1 a1 W hF (by omega) (by omega) (by omega) (by omega) vw0 (fun h => List.eq_nil_of_length_eq_zero (nl0 h)) hg1 hc1).mono fun e W' ⟨he, bel⟩ => ?_
  subst he
  refine ⟨_, rfl, _, _, _, [], _, q, hW', trodAll_mk1 (shut_bool Tryf.underlying4 _), trodAll_mk2 (Below.trod laidOut (by kernel_rfl) (of_decide_eq_true (by kernel_rfl)) k0 bel lt0) (Below.trod laidOut (by kernel_rfl) (of_decide_eq_true (by kernel_rfl)) k1 bel lt1), Below.trodVars laidOut bel (by kernel_rfl) hV, bel.frame _, fun h => by cases h⟩

theorem stops : Tryf.pinned.checked.prog.stops = Rows.propNotificationKeepaliveRoundTripRow.stops := by kernel_rfl
theorem stopKnobs : Tryf.pinned.checked.prog.stopKnobs = [] := by kernel_rfl
theorem quiet (os : Os) : Stop.quiet Tryf.pinned.checked.prog os := by
  intro k hk
  rw [stopKnobs] at hk
  cases hk

end NoRow
open NoRow in
theorem notification_holds : Rows.PropNotificationKeepaliveRoundTripToldSaid :=
  Claim7.holds_of_told_tied_any_at .later 3 Tryf.f3 _ _ [] _ _ _ _ _ (by kernel_rfl) rfl rfl rfl laidOut (by kernel_rfl) rfl ⟨rfl, rfl, rfl, rfl, rfl, rfl, rfl⟩ rfl rfl (by kernel_rfl) (by kernel_rfl) Tryf.func3 (by kernel_rfl)
    (of_decide_eq_true (by kernel_rfl)) (by unfold Func.isWrapper; first | (rw [if_pos (by decide +kernel)]; kernel_rfl) | (rw [if_neg (by decide +kernel)]; exact ⟨rfl, rfl⟩)) stops.symm rfl stopKnobs.symm (by kernel_rfl)
    (by kernel_rfl) (by kernel_rfl) (by kernel_rfl) (by kernel_rfl) (by kernel_rfl) (by kernel_rfl) (by kernel_rfl) (by kernel_rfl) (by kernel_rfl) rfl (by kernel_rfl) rfl rfl
    rfl rfl
    rfl (by kernel_rfl) (by kernel_rfl) (by kernel_rfl) (by decide) (by kernel_rfl) propNotificationKeepaliveRoundTrip_row_tie
    (OpenClaim.moreEntering_of (by kernel_rfl) (by kernel_rfl) (by kernel_rfl) (by kernel_rfl) (by kernel_rfl) (by kernel_rfl) (by kernel_rfl) (by kernel_rfl) (by kernel_rfl) (by kernel_rfl))
    ⟨_, WideRow.started_initial, quiet _⟩
    (fun os started _ H enc _ => lifted os started H enc)

end Go.Proofs.Qxb6003713aFmt

