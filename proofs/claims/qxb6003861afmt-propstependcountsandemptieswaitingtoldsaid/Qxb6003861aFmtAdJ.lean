import Derived.Test.Qxb6003861aFmtAdI
import Derived.BigQuiet
namespace Go.Proofs.Qxb6003861aFmt
open Go.RowKit
set_option linter.unusedVariables false
set_option linter.unusedSimpArgs false
variable {B : Nat}

set_option maxRecDepth 100000 in
set_option maxHeartbeats 2000000 in
theorem ride0_any (w : World) (c : SC) (s r : List Int) (M K : Nat) (a b d : Int) (h : ST B w c s r M K) (hj : pl c.ids b = none) :
    Calls Tryf.prog 15 #[.pointer (some ⟨c.sb, 0, none⟩), .int .i64 a, .int .i64 b, .int .i64 2, .int .i64 d] w (Stepped B w c s r M K) := by
  have HS := Hid.mk'' h
  have HJ := Hid.mk'' hj
  have c2 := h.c2
  have hm : ∀ w, (method 214 40 (.pointer (some ⟨c.nb, 0, none⟩)) "Place").run Tryf.prog w = .ok (52, .pointer (some ⟨c.nb, 0, none⟩)) w := fun _ => by kernel_rfl
  clear h hj
  go_enter Tryf.func15, Tryf.ntmps15
  go_wp2_with (refine (HS.out.iplace0 b HJ.out).mono ?_; rintro e w1 ⟨rfl, hw1⟩; subst hw1)
  refine bodyPost_ret (v := .tuple #[]) (by simp [results, Tryf.results15, go_sem]) rfl ?_
  exact ⟨rfl, HS.out, Tame.refl _ _ _⟩

set_option maxRecDepth 100000 in
set_option maxHeartbeats 2000000 in
theorem ride_any (w : World) (c : SC) (s r : List Int) (M K : Nat) (a b d : Int) (j : Nat) (h : ST B w c s r M K) (hM : M ≤ 900000) (hj : pl c.ids b = some j) :
    Calls Tryf.prog 15 #[.pointer (some ⟨c.sb, 0, none⟩), .int .i64 a, .int .i64 b, .int .i64 2, .int .i64 d] w (Stepped B w c s r (M + 1) K) := by
  have HS := Hid.mk'' h
  have HJ := Hid.mk'' hj
  have c1 := h.c1
  have c2 := h.c2
  have hm : ∀ w, (method 214 40 (.pointer (some ⟨c.nb, 0, none⟩)) "Place").run Tryf.prog w = .ok (52, .pointer (some ⟨c.nb, 0, none⟩)) w := fun _ => by kernel_rfl
  clear h hj
  go_enter Tryf.func15, Tryf.ntmps15
  go_wp2_with (first | (go_at_call 12; go_must (refine (HS.out.take hM a b d).mono ?_); rintro e w1 ⟨rfl, h6, h7⟩; have H6 := Hid.mk'' h6; have H7 := Hid.mk'' h7; clear h6 h7) | (refine (HS.out.iplace b j HJ.out).mono ?_; rintro e w1 ⟨rfl, hw1⟩; subst hw1) | fail)
  refine bodyPost_end (v := .tuple #[]) (by simp [results, Tryf.results15, go_sem]) rfl ?_
  exact ⟨rfl, H6.out, H7.out⟩

set_option maxRecDepth 100000 in
set_option maxHeartbeats 4000000 in
theorem along0_any (w : World) (c : SC) (s r : List Int) (M K : Nat) (a b d : Int) (i : Nat) (h : ST B w c s r M K) (hi : pl c.ids a = some i) (hj : pl c.ids b = none) :
    Calls Tryf.prog 15 #[.pointer (some ⟨c.sb, 0, none⟩), .int .i64 a, .int .i64 b, .int .i64 1, .int .i64 d] w (Stepped B w c (up s i 1) r M K) := by
  have HS := Hid.mk'' h
  have HI := Hid.mk'' hi
  have HJ := Hid.mk'' hj
  have hlt := pl_lt hi
  obtain ⟨gs, z, x, c3, cs, fs, hne, ex, k1, k2⟩ := h.sup hlt
  have H2 : Hid (ST B (w.setCell ⟨gs, i, none⟩ (.int .i64 x)) c (up s i 1) r M K ∧ Tame B true w (w.setCell ⟨gs, i, none⟩ (.int .i64 x)) c.own) := ⟨k1, k2⟩
  obtain ⟨N, hN⟩ : ∃ N, N = c.ids.length := ⟨_, rfl⟩
  rw [← hN] at c3 hlt
  have i1 : (i : Int) < (N : Int) := by omega
  have hm : ∀ w, (method 214 40 (.pointer (some ⟨c.nb, 0, none⟩)) "Place").run Tryf.prog w = .ok (52, .pointer (some ⟨c.nb, 0, none⟩)) w := fun _ => by kernel_rfl
  clear h k1 k2 hi hj hN
  go_enter Tryf.func15, Tryf.ntmps15
  go_wp2_with fail
  go_region_with ((first | (go_at_call 25; refine (HS.out.drew.place a i HI.out).mono ?_; rintro e w1 ⟨rfl, hw1⟩; subst hw1) | fail))
  all_goals (
    obtain ⟨W, hW⟩ : ∃ W, W = (w.setCell ⟨gs, i, none⟩ (.int .i64 x)).drew := ⟨_, rfl⟩
    have H3 : Hid (ST B W c (up s i 1) r M K ∧ Tame B true w W c.own) := by rw [hW]; exact ⟨H2.out.1.drew, H2.out.2.drew⟩
    rw [← hW]
    clear hW cs fs c3 H2 HS HI
    have c2 := H3.out.1.c2
    go_wp2_with (refine (H3.out.1.iplace0 b HJ.out).mono ?_; rintro e w1 ⟨rfl, hw1⟩; subst hw1)
    refine bodyPost_ret (v := .tuple #[]) (by simp [results, Tryf.results15, go_sem]) rfl ?_
    exact ⟨rfl, H3.out.1, H3.out.2⟩)
set_option maxRecDepth 100000 in
set_option maxHeartbeats 4000000 in
theorem apart0_any (w : World) (c : SC) (s r : List Int) (M K : Nat) (a b d : Int) (i : Nat) (h : ST B w c s r M K) (hi : pl c.ids a = some i) (hj : pl c.ids b = none) :
    Calls Tryf.prog 15 #[.pointer (some ⟨c.sb, 0, none⟩), .int .i64 a, .int .i64 b, .int .i64 0, .int .i64 d] w (Stepped B w c (up s i 1) r M K) := by
  have HS := Hid.mk'' h
  have HI := Hid.mk'' hi
  have HJ := Hid.mk'' hj
  have hlt := pl_lt hi
  obtain ⟨gs, z, x, c3, cs, fs, hne, ex, k1, k2⟩ := h.sup hlt
  have H2 : Hid (ST B (w.setCell ⟨gs, i, none⟩ (.int .i64 x)) c (up s i 1) r M K ∧ Tame B true w (w.setCell ⟨gs, i, none⟩ (.int .i64 x)) c.own) := ⟨k1, k2⟩
  obtain ⟨N, hN⟩ : ∃ N, N = c.ids.length := ⟨_, rfl⟩
  rw [← hN] at c3 hlt
  have i1 : (i : Int) < (N : Int) := by omega
  have hm : ∀ w, (method 214 40 (.pointer (some ⟨c.nb, 0, none⟩)) "Place").run Tryf.prog w = .ok (52, .pointer (some ⟨c.nb, 0, none⟩)) w := fun _ => by kernel_rfl
  clear h k1 k2 hi hj hN
  go_enter Tryf.func15, Tryf.ntmps15
  go_wp2_with fail
  go_region_with ((first | (go_at_call 25; refine (HS.out.drew.place a i HI.out).mono ?_; rintro e w1 ⟨rfl, hw1⟩; subst hw1) | fail))
  all_goals (
    obtain ⟨W, hW⟩ : ∃ W, W = (w.setCell ⟨gs, i, none⟩ (.int .i64 x)).drew := ⟨_, rfl⟩
    have H3 : Hid (ST B W c (up s i 1) r M K ∧ Tame B true w W c.own) := by rw [hW]; exact ⟨H2.out.1.drew, H2.out.2.drew⟩
    rw [← hW]
    clear hW cs fs c3 H2 HS HI
    have c2 := H3.out.1.c2
    go_wp2_with (refine (H3.out.1.iplace0 b HJ.out).mono ?_; rintro e w1 ⟨rfl, hw1⟩; subst hw1)
    refine bodyPost_ret (v := .tuple #[]) (by simp [results, Tryf.results15, go_sem]) rfl ?_
    exact ⟨rfl, H3.out.1, H3.out.2⟩)
set_option maxRecDepth 100000 in
set_option maxHeartbeats 4000000 in
theorem along_any (w : World) (c : SC) (s r : List Int) (M K : Nat) (a b d : Int) (i j : Nat) (h : ST B w c s r M K) (hM : M ≤ 900000) (hi : pl c.ids a = some i) (hj : pl c.ids b = some j) :
    Calls Tryf.prog 15 #[.pointer (some ⟨c.sb, 0, none⟩), .int .i64 a, .int .i64 b, .int .i64 1, .int .i64 d] w (Stepped B w c (up s i 1) (up r j 1) (M + 1) K) := by
  have HS := Hid.mk'' h
  have HI := Hid.mk'' hi
  have HJ := Hid.mk'' hj
  have hlt := pl_lt hi
  have HLj : Hid (j < c.ids.length) := pl_lt hj
  obtain ⟨gs, z, x, c3, cs, fs, hne, ex, k1, k2⟩ := h.sup hlt
  have H2 : Hid (ST B (w.setCell ⟨gs, i, none⟩ (.int .i64 x)) c (up s i 1) r M K ∧ Tame B true w (w.setCell ⟨gs, i, none⟩ (.int .i64 x)) c.own) := ⟨k1, k2⟩
  obtain ⟨N, hN⟩ : ∃ N, N = c.ids.length := ⟨_, rfl⟩
  have HNn := Hid.mk'' hN
  have hltj := HLj.out
  rw [← hN] at c3 hlt hltj
  have i1 : (i : Int) < (N : Int) := by omega
  have i2 : (j : Int) < (N : Int) := by omega
  have hm : ∀ w, (method 214 40 (.pointer (some ⟨c.nb, 0, none⟩)) "Place").run Tryf.prog w = .ok (52, .pointer (some ⟨c.nb, 0, none⟩)) w := fun _ => by kernel_rfl
  clear h k1 k2 hi hj hN
  go_enter Tryf.func15, Tryf.ntmps15
  go_wp2_with fail
  go_region_with ((first | (go_at_call 25; refine (HS.out.drew.place a i HI.out).mono ?_; rintro e w1 ⟨rfl, hw1⟩; subst hw1) | fail))
  all_goals (
    obtain ⟨W, hW⟩ : ∃ W, W = (w.setCell ⟨gs, i, none⟩ (.int .i64 x)).drew := ⟨_, rfl⟩
    have H3 : Hid (ST B W c (up s i 1) r M K ∧ Tame B true w W c.own) := by rw [hW]; exact ⟨H2.out.1.drew, H2.out.2.drew⟩
    rw [← hW]
    clear hW cs fs c3 H2 HS HI hne ex
    have c2 := H3.out.1.c2
    obtain ⟨gr, y, u, c4, cr, fr, hne, eu, k1, k2⟩ := H3.out.1.rup HLj.out
    have H4 : Hid (ST B (W.setCell ⟨gr, j, none⟩ (.int .i64 u)) c (up s i 1) (up r j 1) M K ∧ Tame B true w (W.setCell ⟨gr, j, none⟩ (.int .i64 u)) c.own) := ⟨k1, H3.out.2.trans k2⟩
    have c1 := k1.c1
    rw [← HNn.out] at c4
    clear k1 k2
    go_wp2_with (first | (go_at_call 12; go_must (refine (H4.out.1.take hM a b d).mono ?_); rintro e w1 ⟨rfl, h6, h7⟩; have H6 := Hid.mk'' h6; have H7 := Hid.mk'' h7; clear h6 h7) | (refine (H3.out.1.iplace b j HJ.out).mono ?_; rintro e w1 ⟨rfl, hw1⟩; subst hw1) | fail)
    refine bodyPost_end (v := .tuple #[]) (by simp [results, Tryf.results15, go_sem]) rfl ?_
    exact ⟨rfl, H6.out, H4.out.2.trans H7.out⟩)

end Go.Proofs.Qxb6003861aFmt
