import Derived.Test.Qxb6003861aFmtAdM
namespace Go.Proofs.Qxb6003861aFmt
open Go.RowKit
set_option linter.unusedVariables false
set_option linter.unusedSimpArgs false
variable {B : Nat}

/-- The tape's own row. -/
def UW (w : World) (ao : Option Addr) (l : List Int) : Prop := l = [] ∨ ∃ g, ao = some ⟨g, 0, none⟩ ∧ Blk w g 34 (uc l).toArray
theorem UW.view {w : World} {ao : Option Addr} {l : List Int} (h : UW w ao l) : View w ao (uc l) := by
  rcases h with rfl | ⟨g, rfl, hB⟩
  · exact .inl rfl
  · exact hB.view _ rfl
theorem UW.tame {S : Bool} {X : Nat → Prop} {w w' : World} {ao : Option Addr} {l : List Int} (h : UW w ao l) (k : Tame B S w w' X) (hX : ∀ g, X g → NotT w g 34) : UW w' ao l := by
  rcases h with h | ⟨g, e, hB⟩
  · exact .inl h
  · exact .inr ⟨g, e, hB.tame k (fun q => hX g q _ hB) ⟨by decide, by decide, fun _ => by decide⟩⟩
/-- The tape, wherever it stands. -/
def TP (w : World) (tb : Nat) : Prop := ∃ (ao : Option Addr) (cap : Nat) (l : List Int) (i : Nat), Blk w tb 62 #[.slice ao l.length cap, .int .i64 i] ∧ UW w ao l ∧ (l = [] ∨ i < l.length) ∧ l.length ≤ 1000000 ∧ (∀ x ∈ l, Drawn x)
theorem TP.tame {S : Bool} {X : Nat → Prop} {w w' : World} {tb : Nat} (h : TP w tb) (k : Tame B S w w' X) (hX : ∀ g, X g → g ≠ tb ∧ NotT w g 34) : TP w' tb := by
  obtain ⟨ao, cap, l, i, h1, h2, h3⟩ := h
  exact ⟨ao, cap, l, i, h1.tame k (fun q => (hX _ q).1 rfl) ⟨by decide, by decide, fun _ => by decide⟩, h2.tame k (fun g q => (hX g q).2), h3⟩
def WordP (tb : Nat) (w : World) (e : Ending) (w' : World) : Prop := ∃ x, e = .returned (.int .u64 x) ∧ Drawn x ∧ TP w' tb ∧ Kept w w' (fun k => k = tb)

set_option maxRecDepth 100000 in
set_option maxHeartbeats 2000000 in
theorem wordp_any (tb : Nat) (w : World) (h : TP w tb) : Calls Tryf.prog 54 #[.pointer (some ⟨tb, 0, none⟩)] w (WordP tb w) := by
  obtain ⟨ao, cap, l, i, hB, hU, hi, hle, hd⟩ := h
  have hV := hU.view
  have HU := Hid.mk'' hU
  have HB := Hid.mk'' hB
  have HV := Hid.mk'' hV
  have HD := Hid.mk'' hd
  have c0 : w.cell? ⟨tb, 0, none⟩ = some (.slice ao l.length cap) := hB.cell 0
  have c1 : w.cell? ⟨tb, 1, none⟩ = some (.int .i64 i) := hB.cell 1
  have f1 := hB.frozen
  obtain ⟨N, hN⟩ : ∃ N, N = l.length := ⟨_, rfl⟩
  have HN : Hid (N = l.length) := hN
  rw [← hN] at c0 hi hle
  by_cases h0 : N = 0
  · subst h0
    have HT : Hid (TP w tb) := ⟨ao, cap, l, i, hB, hU, .inl (List.eq_nil_of_length_eq_zero hN.symm), by omega, hd⟩
    clear hB hV hU hd hN hi
    go_enter Tryf.func54, Tryf.ntmps54
    go_wp2_with fail
    go_ret
    exact ⟨_, rfl, drawn_ones, HT.out, Kept.refl _ _⟩
  · have hi' : i < N := by
      rcases hi with h | h
      · exact absurd (by rw [hN, h]; rfl) h0
      · exact h
    obtain ⟨b1, o1, q1, _, hc1⟩ := HV.out.at (j := i) (by rw [uc_length, ← HN.out]; omega)
    subst q1
    obtain ⟨x, hx⟩ : ∃ x, x = l.getD i 0 := ⟨_, rfl⟩
    have d1 : w.cell? ⟨b1, o1 + i, none⟩ = some (.int .u64 x) := hc1 i _ (by rw [hx]; exact uc_get l i (by rw [← HN.out]; omega))
    have HDx : Hid (Drawn x) := by
      rw [hx]
      have hlt : i < l.length := by rw [← hN]; exact hi'
      simp only [List.getD, List.getElem?_eq_getElem hlt, Option.getD_some]
      exact hd _ (List.getElem_mem hlt)
    have hbt : ¬ b1 = tb := by
      rcases hU with e | ⟨g, e, hg⟩
      · exact absurd (by rw [hN, e]; rfl) h0
      · cases e
        intro e
        exact hg.notT (T' := 62) (by decide) _ (by rw [e]; exact hB)
    have i1 : (0 : Int) ≤ (i : Int) := by omega
    have i2 : (i : Int) < (N : Int) := by omega
    have i3 : ¬ (N : Int) = 0 := by omega
    have i4 : (N : Int) ≤ 1000000 := by omega
    have HT : Hid (∀ (W : World) (j : Nat), Kept w W (fun k => k = tb) → Blk W tb 62 #[.slice (some ⟨b1, o1, none⟩) N cap, .int .i64 j] → j < N → TP W tb) := fun W j hk hb hj =>
      ⟨_, cap, l, j, by rw [← HN.out]; exact hb, HU.out.tame (Tame.ofKept (B := 0) (S := false) hk) (fun g q => by subst q; exact HB.out.notT (by decide)), .inr (by rw [← HN.out]; exact hj), by rw [← HN.out]; omega, HD.out⟩
    clear hB hV hU hd hN hi hc1 hx
    have HB2 : Hid (Blk w tb 62 #[.slice (some ⟨b1, o1, none⟩) N cap, .int .i64 i]) := by have h := HB.out; rw [← HN.out] at h; exact h
    by_cases hw : i + 1 = N
    · have i5 : (i : Int) + 1 = (N : Int) := by omega
      have i6 : ((N : Int) == (N : Int)) = true := by simp
      go_enter Tryf.func54, Tryf.ntmps54
      go_wp2_with fail
      go_quiet (fail)
      go_wp2_with fail
      obtain ⟨W, hW⟩ : ∃ W, W = (w.drewN nq).setCell ⟨tb, 1, none⟩ (.int .i64 (N : Int)) := ⟨_, rfl⟩
      have HW : Hid (Blk W tb 62 #[.slice (some ⟨b1, o1, none⟩) N cap, .int .i64 (N : Int)]) := by rw [hW]; exact (HB2.out.drewN nq).set 1 _
      have HK : Hid (Kept w W (fun k => k = tb)) := by rw [hW]; exact ((Kept.refl w (fun k => k = tb)).drewN nq).set (k := 1) (.inl rfl) _
      rw [← hW]
      clear hW c0 c1 f1 d1
      have c0 : W.cell? ⟨tb, 0, none⟩ = some (.slice (some ⟨b1, o1, none⟩) N cap) := HW.out.cell 0
      have c1 : W.cell? ⟨tb, 1, none⟩ = some (.int .i64 (N : Int)) := HW.out.cell 1
      have f1 := HW.out.frozen
      go_quiet (fail)
      go_wp2_with fail
      go_ret
      refine ⟨x, rfl, HDx.out, HT.out _ 0 ((HK.out.drewN _).set (k := 1) (.inl rfl) _) ((HW.out.drewN _).set 1 _) (by omega), (HK.out.drewN _).set (k := 1) (.inl rfl) _⟩
    · have i5 : ¬ (i : Int) + 1 = (N : Int) := by omega
      have i6 : ((i : Int) + 1 == (N : Int)) = false := by simp [i5]
      go_enter Tryf.func54, Tryf.ntmps54
      go_wp2_with fail
      go_quiet (fail)
      go_wp2_with fail
      obtain ⟨W, hW⟩ : ∃ W, W = (w.drewN nq).setCell ⟨tb, 1, none⟩ (.int .i64 ((i : Int) + 1)) := ⟨_, rfl⟩
      have HW : Hid (Blk W tb 62 #[.slice (some ⟨b1, o1, none⟩) N cap, .int .i64 ((i : Int) + 1)]) := by rw [hW]; exact (HB2.out.drewN nq).set 1 _
      have HK : Hid (Kept w W (fun k => k = tb)) := by rw [hW]; exact ((Kept.refl w (fun k => k = tb)).drewN nq).set (k := 1) (.inl rfl) _
      rw [← hW]
      clear hW c0 c1 f1 d1
      have c0 : W.cell? ⟨tb, 0, none⟩ = some (.slice (some ⟨b1, o1, none⟩) N cap) := HW.out.cell 0
      have c1 : W.cell? ⟨tb, 1, none⟩ = some (.int .i64 ((i : Int) + 1)) := HW.out.cell 1
      have f1 := HW.out.frozen
      go_quiet (fail)
      go_wp2_with fail
      go_ret
      refine ⟨x, rfl, HDx.out, HT.out _ (i + 1) (HK.out.drewN _) (HW.out.drewN _) (by omega), HK.out.drewN _⟩

/-- The source of words behind its interface. -/
def RP (w : World) (rb tb : Nat) : Prop := Blk w rb 82 #[.iface 60 (.pointer (some ⟨tb, 0, none⟩))] ∧ rb ≠ tb ∧ TP w tb

set_option maxRecDepth 100000 in
set_option maxHeartbeats 2000000 in
theorem drawp_any (rb tb : Nat) (w : World) (h : RP w rb tb) : Calls Tryf.prog 31 #[.pointer (some ⟨rb, 0, none⟩)] w (WordP tb w) := by
  obtain ⟨hB, hne, hT⟩ := h
  have c0 : w.cell? ⟨rb, 0, none⟩ = some (.iface 60 (.pointer (some ⟨tb, 0, none⟩))) := hB.cell 0
  have HT := Hid.mk'' hT
  clear hB hT
  have hm : ∀ w, (method 214 60 (.pointer (some ⟨tb, 0, none⟩)) "Uint64").run Tryf.prog w = .ok (54, .pointer (some ⟨tb, 0, none⟩)) w := fun _ => by kernel_rfl
  go_enter Tryf.func31, Tryf.ntmps31
  go_wp2_with (refine (wordp_any tb w HT.out).mono ?_; rintro e w1 ⟨x, rfl, hD, hT1, hK⟩; have HD := Hid.mk'' hD; have HT1 := Hid.mk'' hT1; have HK := Hid.mk'' hK; clear hD hT1 hK)
  go_ret
  exact ⟨x, rfl, HD.out, HT1.out, HK.out⟩

/-- A draw below n. -/
def BelowP (n : Nat) (k : IntKind) (tb : Nat) (w : World) (e : Ending) (w' : World) : Prop := ∃ j : Nat, e = .returned (.int k j) ∧ j < n ∧ TP w' tb ∧ Kept w w' (fun k => k = tb)

set_option maxRecDepth 100000 in
set_option maxHeartbeats 2000000 in
theorem u64np_any (rb tb : Nat) (n : Nat) (w : World) (h : RP w rb tb) (h1 : 1 ≤ n) (h2 : n ≤ 256) : Calls Tryf.prog 28 #[.pointer (some ⟨rb, 0, none⟩), .int .u64 n] w (BelowP n .u64 tb w) := by
  have HR := Hid.mk'' h
  have i1 : IntKind.u64.wrap ((n : Int) - 1) = (n : Int) - 1 := by rw [IntKind.wrap_u64]; omega
  clear h
  by_cases hp : bits .and .u64 (n : Int) ((n : Int) - 1) = 0
  · have i2 : (bits .and .u64 (n : Int) ((n : Int) - 1) == 0) = true := by simp [hp]
    go_enter Tryf.func28, Tryf.ntmps28
    go_wp2_with (refine (drawp_any rb tb w HR.out).mono ?_; rintro e w1 ⟨x, rfl, hD, hT1, hK⟩; have HD := Hid.mk'' hD; have HT1 := Hid.mk'' hT1; have HK := Hid.mk'' hK; clear hD hT1 hK)
    go_ret
    obtain ⟨j, hj, hjn⟩ := and_lt x n HD.out.1 HD.out.2.1 h1 h2
    exact ⟨j, by rw [hj]; rfl, hjn, HT1.out, HK.out⟩
  · have i2 : (bits .and .u64 (n : Int) ((n : Int) - 1) == 0) = false := by simp [hp]
    go_enter Tryf.func28, Tryf.ntmps28
    go_wp2_with (first | (refine (drawp_any rb tb w HR.out).mono ?_; rintro e w1 ⟨x, rfl, hD, hT1, hK⟩; have HD := Hid.mk'' hD; have HT1 := Hid.mk'' hT1; have HK := Hid.mk'' hK; clear hD hT1 hK) | (refine (mul_any x n w1 HD.out.1 HD.out.2.1 (by omega) (by omega)).mono ?_; rintro e w2 ⟨rfl, rfl⟩; obtain ⟨lo, hlo⟩ : ∃ lo, x * (n : Int) % 18446744073709551616 = lo := ⟨_, rfl⟩; obtain ⟨hi, hhi⟩ : ∃ hi, x * (n : Int) / 18446744073709551616 = hi := ⟨_, rfl⟩; have HLo := Hid.mk'' hlo; have HHi := Hid.mk'' hhi; rw [hlo, hhi]; clear hlo hhi) | fail)
    · have hge : ¬ lo < (IntKind.u64.wrap (-(n : Int))).tmod n := by
        have h := HD.out.2.2 n h1 h2
        unfold Fit at h
        rw [HLo.out] at h
        have e2 : IntKind.u64.wrap (-(n : Int)) = 18446744073709551616 - n := by rw [IntKind.wrap_u64]; omega
        rw [e2, Int.tmod_eq_emod_of_nonneg (by omega)]
        exact h
      refine wp_loop_rounds 1 ?_
      rw [rounds_succ]
      go_wp2_with fail
      go_ret
      obtain ⟨j, hj, hjn⟩ := hi_lt x n HD.out.1 HD.out.2.1 h1
      rw [HHi.out] at hj
      exact ⟨j, by rw [hj]; rfl, hjn, HT1.out, HK.out⟩
    · go_ret
      obtain ⟨j, hj, hjn⟩ := hi_lt x n HD.out.1 HD.out.2.1 h1
      rw [HHi.out] at hj
      exact ⟨j, by rw [hj]; rfl, hjn, HT1.out, HK.out⟩

set_option maxRecDepth 100000 in
theorem intnp_any (rb tb : Nat) (n : Nat) (w : World) (h : RP w rb tb) (h1 : 1 ≤ n) (h2 : n ≤ 256) : Calls Tryf.prog 22 #[.pointer (some ⟨rb, 0, none⟩), .int .i64 n] w (BelowP n .i64 tb w) := by
  have HR := Hid.mk'' h
  have i1 : ¬ (n : Int) ≤ 0 := by omega
  have i2 : IntKind.u64.wrap (n : Int) = n := by rw [IntKind.wrap_u64]; omega
  clear h
  go_enter Tryf.func22, Tryf.ntmps22
  go_wp2_with (refine (u64np_any rb tb n w HR.out h1 h2).mono ?_; rintro e w1 ⟨j, rfl, hj, hT1, hK⟩; have HT1 := Hid.mk'' hT1; have HK := Hid.mk'' hK; have i3 : IntKind.i64.wrap (j : Int) = j := by { rw [IntKind.wrap_i64]; omega }; clear hT1 hK)
  go_ret
  exact ⟨j, rfl, hj, HT1.out, HK.out⟩

end Go.Proofs.Qxb6003861aFmt
