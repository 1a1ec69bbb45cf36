import Derived.Test.Qxb6003861aFmtAdI
import Derived.BigRegion
namespace Go.Proofs.Qxb6003861aFmt
open Go.RowKit
set_option linter.unusedVariables false
set_option linter.unusedSimpArgs false
variable {B : Nat}
set_option maxRecDepth 100000 in
set_option maxHeartbeats 2000000 in
theorem answer_any (w : World) (c : SC) (s r : List Int) (M K : Nat) (a b d : Int) (i j : Nat) (h : ST B w c s r M K) (hM : M ≤ 900000) (hi : pl c.ids a = some i) (hj : pl c.ids b = some j) :
    Calls Tryf.prog 18 #[.pointer (some ⟨c.sb, 0, none⟩), .int .i64 a, .int .i64 b, .int .i64 d] w (Stepped B w c (up s i 1) (up r j 1) (M + 1) K) := by
  have HS := Hid.mk'' h
  have HI := Hid.mk'' hi
  have HJ := Hid.mk'' hj
  have hlt := pl_lt hi
  have hltj := pl_lt hj
  obtain ⟨gs, es, hBs, cs, c3, fs⟩ := h.s3 hlt
  have hne := h.sne hBs
  obtain ⟨z, hz⟩ : ∃ z, z = s.getD i 0 := ⟨_, rfl⟩
  rw [← hz] at cs
  obtain ⟨x, hx⟩ : ∃ x, x = wrap64 (z + 1) := ⟨_, rfl⟩
  have ex : IntKind.i64.wrap (z + 1) = x := by rw [hx]; exact IntWalk.i64_left _
  have h2 := h.sent es hBs i x
  have H2 : Hid (ST B (w.setCell ⟨gs, i, none⟩ (.int .i64 x)) c (up s i 1) r M K ∧ Tame B true w (w.setCell ⟨gs, i, none⟩ (.int .i64 x)) c.own) := ⟨by unfold up; rw [← hz, ← hx]; exact h2.1, h2.2⟩
  obtain ⟨N, hN⟩ : ∃ N, N = c.ids.length := ⟨_, rfl⟩
  have HNn := Hid.mk'' hN
  have HLj : Hid (j < c.ids.length) := hltj
  rw [← hN] at c3 hlt hltj
  have i1 : (i : Int) < (N : Int) := by omega
  have i2 : (j : Int) < (N : Int) := by omega
  clear h h2 hBs es hz hi hj hN hx
  go_enter Tryf.func18, Tryf.ntmps18
  go_wp2_with fail
  go_region_with ((first | (go_at_call 25; refine (HS.out.drew.place a i HI.out).mono ?_; rintro e w1 ⟨rfl, hw1⟩; subst hw1) | fail))
  all_goals (
    obtain ⟨W, hW⟩ : ∃ W, W = (w.setCell ⟨gs, i, none⟩ (.int .i64 x)).drew := ⟨_, rfl⟩
    have H3 : Hid (ST B W c (up s i 1) r M K ∧ Tame B true w W c.own) := by rw [hW]; exact ⟨H2.out.1.drew, H2.out.2.drew⟩
    rw [← hW]
    clear hW cs fs c3 H2 HS HI
    obtain ⟨gr, er, hBr, cr, c4, fr⟩ := H3.out.1.s4 HLj.out
    obtain ⟨y, hy⟩ : ∃ y, y = r.getD j 0 := ⟨_, rfl⟩
    rw [← hy] at cr
    obtain ⟨u, hu⟩ : ∃ u, u = wrap64 (y + 1) := ⟨_, rfl⟩
    have eu : IntKind.i64.wrap (y + 1) = u := by { rw [hu]; exact IntWalk.i64_left _ }
    have h2 := H3.out.1.recv er hBr j u
    have H4 : Hid (ST B (W.setCell ⟨gr, j, none⟩ (.int .i64 u)) c (up s i 1) (up r j 1) M K ∧ Tame B true w (W.setCell ⟨gr, j, none⟩ (.int .i64 u)) c.own) := ⟨by { unfold up; rw [← hy, ← hu]; exact h2.1 }, H3.out.2.trans h2.2⟩
    rw [← HNn.out] at c4
    clear h2 er hBr hy hu
    go_wp2_with fail
    go_region_with ((first | (go_at_call 25; refine (H3.out.1.drew.place b j HJ.out).mono ?_; rintro e w1 ⟨rfl, hw1⟩; subst hw1) | fail))
    all_goals (
      obtain ⟨V, hV⟩ : ∃ V, V = (W.setCell ⟨gr, j, none⟩ (.int .i64 u)).drew := ⟨_, rfl⟩
      have H5 : Hid (ST B V c (up s i 1) (up r j 1) M K ∧ Tame B true w V c.own) := by rw [hV]; exact ⟨H4.out.1.drew, H4.out.2.drew⟩
      rw [← hV]
      clear hV cr fr c4 H4 H3
      have c1 := H5.out.1.c1
      go_wp2_with (go_at_call 12; refine (H5.out.1.take hM a b d).mono ?_; rintro e w1 ⟨rfl, h6, h7⟩; have H6 := Hid.mk'' h6; have H7 := Hid.mk'' h7; clear h6 h7)
      refine bodyPost_end (v := .tuple #[]) (by simp [results, Tryf.results18, go_sem]) rfl ?_
      exact ⟨rfl, H6.out, H5.out.2.trans H7.out⟩))

end Go.Proofs.Qxb6003861aFmt
