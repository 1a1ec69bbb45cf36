import Derived.Test.Qxb6003861aFmtAdK
import Derived.BigQuiet
namespace Go.Proofs.Qxb6003861aFmt
open Go.RowKit
set_option linter.unusedVariables false
set_option linter.unusedSimpArgs false
variable {B : Nat}

theorem step_env {ops : Array Oper} {o : Oper} {a : Act} {w w0 : World} {K : Act → World → Prop} {Q : Exit → Act → World → Prop} {E : Prop} {ao : Option Addr} {m k : Nat} {x y : Int} {g : Nat} {cur : Array Value} {c : SC} {s r : List Int} {M KK : Nat} {v5 vj : Value} {j : Nat}
    (hgd : o.guard = none) (p q : Operand)
    (ho : o.op = .call { callee := .builtin .append, args := #[p, q], argTypes := #[66, 66] })
    (hv : a.eval p = .slice ao m k) (hx : a.eval q = .slice (some ⟨w0.heap.size, 0, none⟩) 1 1) (hw : w = w0.alloc (.cells #[.int .i64 x, .int .i64 y] 76))
    (HI : Hid (IR B 76 2 w0 (.slice ao m k) m)) (hm : m ≤ 900000) (HB : Hid (Blk w0 g 66 cur)) (HS : Hid (ST B w0 c s r M KK)) (h5 : w0.cell? ⟨c.sb, 5, none⟩ = some v5) (hj : w0.cell? ⟨g, j, none⟩ = some vj)
    (h : ∀ ao1 k1 w', Hid (IR B 76 2 w' (.slice ao1 (m + 1) k1) (m + 1)) → Hid (ST B w' c s r M KK) → Hid (Tame B false w0 w' (fun _ => False)) → (∀ i, w'.frozen? ⟨g, i, none⟩ = false) → w'.cell? ⟨c.sb, 5, none⟩ = some v5 → w'.cell? ⟨g, j, none⟩ = some vj → K (a.put o.dst (.slice ao1 (m + 1) k1)) w') :
    if Region.wanted o (yielded ops a.tmps) = true then Oper.wp Tryf.prog o a w K Q else E := by
  subst hw
  refine step_app (t := 66) hgd p q ho _ _ hv hx (run_env w0 _ _ m x y HI.out HS.out.bw hm) ?_
  intro v1 w2 h1
  obtain ⟨ao1, k1, rfl⟩ := h1.1.form
  have hB2 := HB.out.tame h1.2 id (hardF _ (by decide) (by decide))
  refine h ao1 k1 w2 h1.1 (HS.out.tame h1.2 (fun _ q => q.elim)) h1.2 hB2.frozen ?_ ?_
  · obtain ⟨wv, hs, _⟩ := HS.out.sb
    have := Blk.tame hs h1.2 id (hardF _ (by decide) (by decide))
    have e1 : w0.cell? ⟨c.sb, 5, none⟩ = some wv := Blk.cell hs 5
    rw [e1] at h5
    cases h5
    exact Blk.cell this 5
  · rw [HB.out.cell] at hj
    rw [hB2.cell]
    exact hj

theorem ST.w5' {w : World} {c : SC} {s r : List Int} {M K : Nat} (h : ST B w c s r M K) {g cap : Nat} (h5 : w.cell? ⟨c.sb, 5, none⟩ = some (.slice (some ⟨g, 0, none⟩) c.ids.length cap)) {j : Nat} (hj : j < c.ids.length) : ∃ cur ao m k, Blk w g 66 cur ∧ w.cell? ⟨g, j, none⟩ = some (.slice ao m k) ∧ IR B 76 2 w (.slice ao m k) m ∧ m ≤ K := by
  rcases h.w5 with c5 | ⟨g', cap', cur, c5, hcap, hB, hsz, hall⟩
  · rw [h5] at c5; cases c5
  · rw [h5] at c5
    cases c5
    obtain ⟨v, m, hv, hI, hmK⟩ := hall j hj
    obtain ⟨ao, k, rfl⟩ := hI.form
    exact ⟨cur, ao, m, k, hB, (hB.cell j).trans hv, hI, hmK⟩
theorem step_zeros {ops : Array Oper} {o : Oper} {a : Act} {w : World} {K : Act → World → Prop} {Q : Exit → Act → World → Prop} {E : Prop} {c : SC} {s r : List Int} {M KK N : Nat} {v3 : Value}
    (hgd : o.guard = none) (p q : Operand)
    (ho : o.op = .call { callee := .builtin .append, args := #[p, q], argTypes := #[64, 3] })
    (hv : a.eval p = .slice none 0 0) (hx : a.eval q = .int .i64 (N : Int)) (h0 : 0 < N) (hN : N = c.ids.length) (HS : Hid (ST B w c s r M KK)) (h3 : w.cell? ⟨c.sb, 3, none⟩ = some v3) (h5 : w.cell? ⟨c.sb, 5, none⟩ = some (.slice none 0 0))
    (h : ∀ g cap w', Hid (WT B 66 76 2 w' (.slice (some ⟨g, 0, none⟩) N cap) c.ids.length 0) → Hid (ST B w' c s r M KK) → Hid (Tame B false w w' (fun _ => False)) → (∀ i, w'.frozen? ⟨c.sb, i, none⟩ = false) → w'.cell? ⟨c.sb, 3, none⟩ = some v3 → w'.cell? ⟨c.sb, 5, none⟩ = some (.slice none 0 0) → K (a.put o.dst (.slice (some ⟨g, 0, none⟩) N cap)) w') :
    if Region.wanted o (yielded ops a.tmps) = true then Oper.wp Tryf.prog o a w K Q else E := by
  refine step_app2 hgd p q ho _ _ hv hx (run_zeros w _ N HS.out.bw h0 (by rw [hN]; exact HS.out.le)) ?_
  rintro v1 w2 ⟨⟨g, cap, rfl⟩, h1, h2⟩
  obtain ⟨wv, hs, _⟩ := HS.out.sb
  have hB := Blk.tame hs h2 id (hardF _ (by decide) (by decide))
  have e3 : w.cell? ⟨c.sb, 3, none⟩ = _ := Blk.cell hs 3
  have e5 : w.cell? ⟨c.sb, 5, none⟩ = _ := Blk.cell hs 5
  rw [h3] at e3
  rw [h5] at e5
  refine h g cap w2 (by rw [← hN]; exact h1) (HS.out.tame h2 (fun _ q => q.elim)) h2 (Blk.frozen hB) ?_ ?_
  · rw [e3]; exact Blk.cell hB 3
  · rw [e5]; exact Blk.cell hB 5

set_option maxRecDepth 100000 in
set_option maxHeartbeats 4000000 in
theorem apart_any (w : World) (c : SC) (s r : List Int) (M K : Nat) (a b d : Int) (i j : Nat) (h : ST B w c s r M K) (hK : K ≤ 900000) (hi : pl c.ids a = some i) (hj : pl c.ids b = some j) :
    Calls Tryf.prog 15 #[.pointer (some ⟨c.sb, 0, none⟩), .int .i64 a, .int .i64 b, .int .i64 0, .int .i64 d] w (Stepped B w c (up s i 1) r M (K + 1)) := by
  have HS := Hid.mk'' h
  have HI := Hid.mk'' hi
  have HJ := Hid.mk'' hj
  have hlt := pl_lt hi
  have HLj : Hid (j < c.ids.length) := pl_lt hj
  obtain ⟨gs, z, x, c3, cs, fs, hne, ex, k1, k2⟩ := h.sup hlt
  have H2 : Hid (ST B (w.setCell ⟨gs, i, none⟩ (.int .i64 x)) c (up s i 1) r M K ∧ Tame B true w (w.setCell ⟨gs, i, none⟩ (.int .i64 x)) c.own) := ⟨k1, k2⟩
  obtain ⟨N, hN⟩ : ∃ N, N = c.ids.length := ⟨_, rfl⟩
  have HNn := Hid.mk'' hN
  have h64 : N ≤ 64 := by rw [hN]; exact h.le
  have hltj := HLj.out
  rw [← hN] at c3 hlt hltj
  have i1 : (i : Int) < (N : Int) := by omega
  have i2 : (j : Int) < (N : Int) := by omega
  have i3 : (0 : Int) < (N : Int) := by omega
  have i4 : ¬ (N : Int) < (N : Int) := by omega
  have b3 : decide ((0 : Int) < (N : Int)) = true := decide_eq_true i3
  have b4 : decide ((N : Int) < (N : Int)) = false := decide_eq_false i4
  have e1 : IntKind.i64.wrap (N : Int) = (N : Int) := by rw [IntWalk.i64_left]; simp only [wrap64]; omega
  have hm : ∀ w, (method 214 40 (.pointer (some ⟨c.nb, 0, none⟩)) "Place").run Tryf.prog w = .ok (52, .pointer (some ⟨c.nb, 0, none⟩)) w := fun _ => by kernel_rfl
  clear h k1 k2 hi hj hN
  go_enter Tryf.func15, Tryf.ntmps15
  go_wp2_with fail
  go_region_with ((first | (go_at_call 25; refine (HS.out.drew.place a i HI.out).mono ?_; rintro e w1 ⟨rfl, hw1⟩; subst hw1) | fail))
  all_goals (
    obtain ⟨W, hW⟩ : ∃ W, W = (w.setCell ⟨gs, i, none⟩ (.int .i64 x)).drew := ⟨_, rfl⟩
    have H3 : Hid (ST B W c (up s i 1) r M K ∧ Tame B true w W c.own) := by rw [hW]; exact ⟨H2.out.1.drew, H2.out.2.drew⟩
    rw [← hW]
    clear hW cs fs c3 H2 HS HI hne ex
    have c2 := H3.out.1.c2
    obtain ⟨gs', _, _, c3, _, _, hne, _⟩ := H3.out.1.sup HLj.out
    rw [← HNn.out] at c3
    have hw5 := H3.out.1.w5
    rw [← HNn.out] at hw5
    rcases hw5 with c5 | ⟨g, cap, cur, c5, hcap, hB, hsz, hall⟩
    · go_wp2_with (refine (H3.out.1.iplace b j HJ.out).mono ?_; rintro e w1 ⟨rfl, hw1⟩; subst hw1)
      go_quiet (fail)
      go_wp2_with fail
      obtain ⟨w1', hV⟩ : ∃ V, V = w1.drewN nq := ⟨_, rfl⟩
      have H3' : Hid (ST B w1' c (up s i 1) r M K ∧ Tame B true w w1' c.own) := by { rw [hV]; exact ⟨H3.out.1.drewN _, H3.out.2.drewN _⟩ }
      have c3' : w1'.cell? ⟨c.sb, 3, none⟩ = some (.slice (some ⟨gs', 0, none⟩) N c.sc) := by { rw [hV]; exact c3 }
      have c5' : w1'.cell? ⟨c.sb, 5, none⟩ = some (.slice none 0 0) := by { rw [hV]; exact c5 }
      rw [← hV]
      clear hV H3 c3 c5
      refine wp_region_held_drew (S := fun W => W.cell? ⟨c.sb, 3, none⟩ = some (.slice (some ⟨gs', 0, none⟩) N c.sc)) (by kernel_rfl) (by exact c3') (fun hHeld => ?_)
      refine wpAnyH_take (i := 0) (oi := { dst := some 50, op := .move (.tmp 0), type := 44, pos := _, after := #[], guard := none }) (v := .pointer (some ⟨c.sb, 0, none⟩)) rfl (by kernel_rfl) (by kernel_rfl) (by kernel_rfl) (fun _ _ _ h => h) (Or.inl ⟨by rfl, fun W hSW => by go_simp⟩) (by assumption) ?_
      try simp only [Act.put, List.setIfInBounds_toArray, List.set_cons_zero, List.set_cons_succ]
      refine wpAnyH_take (i := 1) (oi := { dst := some 51, op := .move (.tmp 0), type := 44, pos := _, after := #[], guard := none }) (v := .pointer (some ⟨c.sb, 0, none⟩)) rfl (by kernel_rfl) (by kernel_rfl) (by kernel_rfl) (fun _ _ _ h => h) (Or.inl ⟨by rfl, fun W hSW => by go_simp⟩) (by assumption) ?_
      try simp only [Act.put, List.setIfInBounds_toArray, List.set_cons_zero, List.set_cons_succ]
      refine wpAnyH_take (i := 2) (oi := { dst := some 52, op := .nilCheck (.tmp 51), type := 0, pos := _, after := #[{ on := 1, ground := .data }], guard := none }) (v := .pointer (some ⟨c.sb, 0, none⟩)) rfl (by kernel_rfl) (by kernel_rfl) (by kernel_rfl) (fun _ _ _ h => h) (Or.inl ⟨by rfl, fun W hSW => by go_simp⟩) (by assumption) ?_
      try simp only [Act.put, List.setIfInBounds_toArray, List.set_cons_zero, List.set_cons_succ]
      refine wpAnyH_take (i := 3) (oi := { dst := some 53, op := .fieldAddr 70 (.tmp 52) 5, type := 0, pos := _, after := #[{ on := 2, ground := .data }], guard := none }) (v := .pointer (some ⟨c.sb, 5, none⟩)) rfl (by kernel_rfl) (by kernel_rfl) (by kernel_rfl) (fun _ _ _ h => h) (Or.inl ⟨by rfl, fun W hSW => by go_simp⟩) (by assumption) ?_
      try simp only [Act.put, List.setIfInBounds_toArray, List.set_cons_zero, List.set_cons_succ]
      refine wpAnyH_take (i := 5) (oi := { dst := some 55, op := .move (.tmp 0), type := 44, pos := _, after := #[], guard := none }) (v := .pointer (some ⟨c.sb, 0, none⟩)) rfl (by kernel_rfl) (by kernel_rfl) (by kernel_rfl) (fun _ _ _ h => h) (Or.inl ⟨by rfl, fun W hSW => by go_simp⟩) (by assumption) ?_
      try simp only [Act.put, List.setIfInBounds_toArray, List.set_cons_zero, List.set_cons_succ]
      refine wpAnyH_take (i := 6) (oi := { dst := some 56, op := .nilCheck (.tmp 55), type := 0, pos := _, after := #[{ on := 5, ground := .data }], guard := none }) (v := .pointer (some ⟨c.sb, 0, none⟩)) rfl (by kernel_rfl) (by kernel_rfl) (by kernel_rfl) (fun _ _ _ h => h) (Or.inl ⟨by rfl, fun W hSW => by go_simp⟩) (by assumption) ?_
      try simp only [Act.put, List.setIfInBounds_toArray, List.set_cons_zero, List.set_cons_succ]
      refine wpAnyH_take (i := 7) (oi := { dst := some 57, op := .fieldAddr 70 (.tmp 56) 3, type := 0, pos := _, after := #[{ on := 6, ground := .data }], guard := none }) (v := .pointer (some ⟨c.sb, 3, none⟩)) rfl (by kernel_rfl) (by kernel_rfl) (by kernel_rfl) (fun _ _ _ h => h) (Or.inl ⟨by rfl, fun W hSW => by go_simp⟩) (by assumption) ?_
      try simp only [Act.put, List.setIfInBounds_toArray, List.set_cons_zero, List.set_cons_succ]
      refine wpAnyH_take (i := 8) (oi := { dst := some 58, op := .load 29 (.tmp 57), type := 29, pos := _, after := #[{ on := 7, ground := .data }], guard := none }) (v := .slice (some ⟨gs', 0, none⟩) N c.sc) rfl (by kernel_rfl) (by kernel_rfl) (by kernel_rfl) (fun _ _ _ h => h) (Or.inl ⟨by rfl, fun W hSW => by have hc2 : W.cell? ⟨c.sb, 3, none⟩ = some (.slice (some ⟨gs', 0, none⟩) N c.sc) := hSW; go_simp⟩) (by assumption) ?_
      try simp only [Act.put, List.setIfInBounds_toArray, List.set_cons_zero, List.set_cons_succ]
      refine wpAnyH_take (i := 9) (oi := { dst := some 59, op := .call { callee := .builtin .len, args := #[.tmp 58], argTypes := #[29] }, type := 3, pos := _, after := #[{ on := 8, ground := .data }], guard := none }) (v := .int .i64 (N : Int)) rfl (by kernel_rfl) (by kernel_rfl) (by kernel_rfl) (fun _ _ _ h => h) (Or.inl ⟨by rfl, fun W hSW => by go_simp⟩) (by assumption) ?_
      try simp only [Act.put, List.setIfInBounds_toArray, List.set_cons_zero, List.set_cons_succ]
      refine wpAnyH_take (i := 10) (oi := { dst := some 60, op := .move (.tmp 0), type := 44, pos := _, after := #[], guard := none }) (v := .pointer (some ⟨c.sb, 0, none⟩)) rfl (by kernel_rfl) (by kernel_rfl) (by kernel_rfl) (fun _ _ _ h => h) (Or.inl ⟨by rfl, fun W hSW => by go_simp⟩) (by assumption) ?_
      try simp only [Act.put, List.setIfInBounds_toArray, List.set_cons_zero, List.set_cons_succ]
      refine wpAnyH_take (i := 11) (oi := { dst := some 61, op := .nilCheck (.tmp 60), type := 0, pos := _, after := #[{ on := 10, ground := .data }], guard := none }) (v := .pointer (some ⟨c.sb, 0, none⟩)) rfl (by kernel_rfl) (by kernel_rfl) (by kernel_rfl) (fun _ _ _ h => h) (Or.inl ⟨by rfl, fun W hSW => by go_simp⟩) (by assumption) ?_
      try simp only [Act.put, List.setIfInBounds_toArray, List.set_cons_zero, List.set_cons_succ]
      refine wpAnyH_take (i := 12) (oi := { dst := some 62, op := .fieldAddr 70 (.tmp 61) 5, type := 0, pos := _, after := #[{ on := 11, ground := .data }], guard := none }) (v := .pointer (some ⟨c.sb, 5, none⟩)) rfl (by kernel_rfl) (by kernel_rfl) (by kernel_rfl) (fun _ _ _ h => h) (Or.inl ⟨by rfl, fun W hSW => by go_simp⟩) (by assumption) ?_
      try simp only [Act.put, List.setIfInBounds_toArray, List.set_cons_zero, List.set_cons_succ]
      refine wpAnyH_ready (rs := [4, 13]) (by kernel_rfl) (by simp) ?_
      refine (AllReadyH.cons (o := { dst := some 54, op := .load 64 (.tmp 53), type := 64, pos := _, after := #[{ on := 3, ground := .data }], guard := none }) rfl (fun K hK => ?_) (AllReadyH.cons (o := { dst := some 63, op := .load 64 (.tmp 62), type := 64, pos := _, after := #[{ on := 12, ground := .data }], guard := none }) rfl (fun K hK => ?_) AllReadyH.nil))
      · go_simp
        refine hK.out _ _ (by exact hHeld) (fun hHeld => ?_)
        clear hK K
        try simp only [Act.put, List.setIfInBounds_toArray, List.set_cons_zero, List.set_cons_succ]
        refine wpAnyH_ready (rs := [13]) (by kernel_rfl) (by simp) ?_
        refine (AllReadyH.cons (o := { dst := some 63, op := .load 64 (.tmp 62), type := 64, pos := _, after := #[{ on := 12, ground := .data }], guard := none }) rfl (fun K hK => ?_) AllReadyH.nil)
        go_simp
        refine hK.out _ _ (by exact hHeld) (fun hHeld => ?_)
        clear hK K
        try simp only [Act.put, List.setIfInBounds_toArray, List.set_cons_zero, List.set_cons_succ]
        refine wpAnyH_take (i := 14) (oi := { dst := some 64, op := .call { callee := .builtin .len, args := #[.tmp 63], argTypes := #[64] }, type := 3, pos := _, after := #[{ on := 13, ground := .data }], guard := none }) (v := .int .i64 0) rfl (by kernel_rfl) (by kernel_rfl) (by kernel_rfl) (fun _ _ _ h => h) (Or.inl ⟨by rfl, fun W hSW => by go_simp⟩) (by assumption) ?_
        try simp only [Act.put, List.setIfInBounds_toArray, List.set_cons_zero, List.set_cons_succ]
        refine wpAnyH_take (i := 15) (oi := { dst := some 65, op := .binOp .sub 3 (.tmp 59) (.tmp 64) 3, type := 3, pos := _, after := #[{ on := 9, ground := .data }, { on := 14, ground := .data }], guard := none }) (v := .int .i64 (N : Int)) rfl (by kernel_rfl) (by kernel_rfl) (by kernel_rfl) (fun _ _ _ h => h) (Or.inl ⟨by rfl, fun W hSW => by go_simp⟩) (by assumption) ?_
        try simp only [Act.put, List.setIfInBounds_toArray, List.set_cons_zero, List.set_cons_succ]
        refine wpAnyH_ready (rs := [16]) (by kernel_rfl) (by simp) ?_
        refine (AllReadyH.cons (o := { dst := some 66, op := .call { callee := .builtin .append, args := #[.tmp 54, .tmp 65], argTypes := #[64, 3] }, type := 64, pos := _, after := #[{ on := 4, ground := .data }, { on := 15, ground := .data }], guard := none }) rfl (fun K hK => ?_) AllReadyH.nil)
        refine step_zeros (w := w1'.drew) (by rfl) (.tmp 54) (.tmp 65) (by rfl) (by rfl) (by rfl) (by omega) HNn.out (by exact Hid.mk'' H3'.out.1.drew) (by exact c3') (by exact c5') ?_
        intro g cap w2 HWT H6 HT1 g0 d3 d5
        refine hK.out _ _ d3 (fun hHeld => ?_)
        clear hK K
        try simp only [Act.put, List.setIfInBounds_toArray, List.set_cons_zero, List.set_cons_succ]
        refine wpAnyH_take (i := 17) (oi := { dst := some 67, op := .nilCheck (.tmp 50), type := 0, pos := _, after := #[{ on := 0, ground := .data }, { on := 0, ground := .phase }, { on := 1, ground := .phase }, { on := 2, ground := .phase }, { on := 3, ground := .phase }, { on := 4, ground := .phase }, { on := 5, ground := .phase }, { on := 6, ground := .phase }, { on := 7, ground := .phase }, { on := 8, ground := .phase }, { on := 9, ground := .phase }, { on := 10, ground := .phase }, { on := 11, ground := .phase }, { on := 12, ground := .phase }, { on := 13, ground := .phase }, { on := 14, ground := .phase }, { on := 15, ground := .phase }, { on := 16, ground := .phase }], guard := none }) (v := .pointer (some ⟨c.sb, 0, none⟩)) rfl (by kernel_rfl) (by kernel_rfl) (by kernel_rfl) (fun _ _ _ h => h) (Or.inl ⟨by rfl, fun W hSW => by go_simp⟩) (by assumption) ?_
        try simp only [Act.put, List.setIfInBounds_toArray, List.set_cons_zero, List.set_cons_succ]
        refine wpAnyH_take (i := 18) (oi := { dst := some 68, op := .fieldAddr 70 (.tmp 67) 5, type := 0, pos := _, after := #[{ on := 17, ground := .data }, { on := 0, ground := .phase }, { on := 1, ground := .phase }, { on := 2, ground := .phase }, { on := 3, ground := .phase }, { on := 4, ground := .phase }, { on := 5, ground := .phase }, { on := 6, ground := .phase }, { on := 7, ground := .phase }, { on := 8, ground := .phase }, { on := 9, ground := .phase }, { on := 10, ground := .phase }, { on := 11, ground := .phase }, { on := 12, ground := .phase }, { on := 13, ground := .phase }, { on := 14, ground := .phase }, { on := 15, ground := .phase }, { on := 16, ground := .phase }], guard := none }) (v := .pointer (some ⟨c.sb, 5, none⟩)) rfl (by kernel_rfl) (by kernel_rfl) (by kernel_rfl) (fun _ _ _ h => h) (Or.inl ⟨by rfl, fun W hSW => by go_simp⟩) (by assumption) ?_
        try simp only [Act.put, List.setIfInBounds_toArray, List.set_cons_zero, List.set_cons_succ]
        refine wpAnyH_ready (rs := [19]) (by kernel_rfl) (by simp) ?_
        refine (AllReadyH.cons (o := { dst := none, op := .store 64 (.tmp 68) (.tmp 66), type := 0, pos := _, after := #[{ on := 18, ground := .data }, { on := 16, ground := .data }, { on := 16, ground := .chain }, { on := 0, ground := .phase }, { on := 1, ground := .phase }, { on := 2, ground := .phase }, { on := 3, ground := .phase }, { on := 4, ground := .phase }, { on := 5, ground := .phase }, { on := 6, ground := .phase }, { on := 7, ground := .phase }, { on := 8, ground := .phase }, { on := 9, ground := .phase }, { on := 10, ground := .phase }, { on := 11, ground := .phase }, { on := 12, ground := .phase }, { on := 13, ground := .phase }, { on := 14, ground := .phase }, { on := 15, ground := .phase }, { on := 16, ground := .phase }], guard := none }) rfl (fun K hK => ?_) AllReadyH.nil)
        go_simp
        have e3 : (w2.setCell ⟨c.sb, 5, none⟩ (.slice (some ⟨g, 0, none⟩) N cap)).cell? ⟨c.sb, 3, none⟩ = some (.slice (some ⟨gs', 0, none⟩) N c.sc) := by { rw [World.cell?_setCell_other _ _ _ _ (fun e => by cases e)]; exact d3 }
        refine hK.out _ _ e3 (fun hHeld => ?_)
        clear hK K
        try simp only [Act.put, List.setIfInBounds_toArray, List.set_cons_zero, List.set_cons_succ]
        refine wpAnyH_done (by kernel_rfl) ?_ _
        go_wp2_with fail
        obtain ⟨V, hV⟩ : ∃ V, V = w2.setCell ⟨c.sb, 5, none⟩ (.slice (some ⟨g, 0, none⟩) N cap) := ⟨_, rfl⟩
        have H5 : Hid (ST B V c (up s i 1) r M K ∧ Tame B true w V c.own) := by { rw [hV]; have k := H6.out.wait _ (HWT.out.mono (Nat.zero_le K)); exact ⟨k.1, (H3'.out.2.trans ((((Tame.refl false w1' (fun _ => False)).drew.trans HT1.out).up true).mono fun _ _ q => q.elim)).trans k.2⟩ }
        clear c5'; have c5' : V.cell? ⟨c.sb, 5, none⟩ = some (.slice (some ⟨g, 0, none⟩) N cap) := by { rw [hV]; obtain ⟨wv, h1, _⟩ := H6.out.sb; exact Blk.cell (Blk.set h1 5 _) 5 }
        rw [← hV]
        clear hV H3' H6 HWT HT1 g0 d3 d5 e3 hHeld c3'
        obtain ⟨cur, ao, m, k, hBV, cj', hIV, hmK⟩ := H5.out.1.w5' (by rw [← HNn.out]; exact c5') HLj.out
        have HBV := Hid.mk'' hBV
        have fj' := hBV.frozen
        have HIV := Hid.mk'' hIV
        have HmK := Hid.mk'' hmK
        have hgs : ¬ g = c.sb := by { obtain ⟨wv, h1, _⟩ := H5.out.1.sb; intro e; exact Blk.notT h1 (T' := 66) (by decide) _ (by rw [← e]; exact HBV.out) }
        have hm9 : m ≤ 900000 := by omega
        have cja : (V.alloc (.cells #[.int .i64 a, .int .i64 d] 76)).cell? ⟨g, j, none⟩ = some (.slice ao m k) := (hBV.alloc _).cell j |>.trans ((hBV.cell j).symm.trans cj')
        clear hBV hIV hmK
        refine wp_region_held_drew (S := fun W => W.cell? ⟨c.sb, 5, none⟩ = some (.slice (some ⟨g, 0, none⟩) N cap)) (by kernel_rfl) (by exact c5') (fun hHeld => ?_)
        refine wpAnyH_take (i := 0) (oi := { dst := some 69, op := .move (.tmp 0), type := 44, pos := _, after := #[], guard := none }) (v := .pointer (some ⟨c.sb, 0, none⟩)) rfl (by kernel_rfl) (by kernel_rfl) (by kernel_rfl) (fun _ _ _ h => h) (Or.inl ⟨by rfl, fun W hSW => by go_simp⟩) (by assumption) ?_
        try simp only [Act.put, List.setIfInBounds_toArray, List.set_cons_zero, List.set_cons_succ]
        refine wpAnyH_take (i := 1) (oi := { dst := some 70, op := .nilCheck (.tmp 69), type := 0, pos := _, after := #[{ on := 0, ground := .data }], guard := none }) (v := .pointer (some ⟨c.sb, 0, none⟩)) rfl (by kernel_rfl) (by kernel_rfl) (by kernel_rfl) (fun _ _ _ h => h) (Or.inl ⟨by rfl, fun W hSW => by go_simp⟩) (by assumption) ?_
        try simp only [Act.put, List.setIfInBounds_toArray, List.set_cons_zero, List.set_cons_succ]
        refine wpAnyH_take (i := 2) (oi := { dst := some 71, op := .fieldAddr 70 (.tmp 70) 5, type := 0, pos := _, after := #[{ on := 1, ground := .data }], guard := none }) (v := .pointer (some ⟨c.sb, 5, none⟩)) rfl (by kernel_rfl) (by kernel_rfl) (by kernel_rfl) (fun _ _ _ h => h) (Or.inl ⟨by rfl, fun W hSW => by go_simp⟩) (by assumption) ?_
        try simp only [Act.put, List.setIfInBounds_toArray, List.set_cons_zero, List.set_cons_succ]
        refine wpAnyH_take (i := 3) (oi := { dst := some 72, op := .load 64 (.tmp 71), type := 64, pos := _, after := #[{ on := 2, ground := .data }], guard := none }) (v := .slice (some ⟨g, 0, none⟩) N cap) rfl (by kernel_rfl) (by kernel_rfl) (by kernel_rfl) (fun _ _ _ h => h) (Or.inl ⟨by rfl, fun W hSW => by have hc2 : W.cell? ⟨c.sb, 5, none⟩ = some (.slice (some ⟨g, 0, none⟩) N cap) := hSW; go_simp⟩) (by assumption) ?_
        try simp only [Act.put, List.setIfInBounds_toArray, List.set_cons_zero, List.set_cons_succ]
        refine wpAnyH_take (i := 4) (oi := { dst := some 73, op := .move (.tmp 10), type := 3, pos := _, after := #[], guard := none }) (v := .int .i64 (j : Int)) rfl (by kernel_rfl) (by kernel_rfl) (by kernel_rfl) (fun _ _ _ h => h) (Or.inl ⟨by rfl, fun W hSW => by go_simp⟩) (by assumption) ?_
        try simp only [Act.put, List.setIfInBounds_toArray, List.set_cons_zero, List.set_cons_succ]
        refine wpAnyH_take (i := 5) (oi := { dst := some 74, op := .move (.tmp 0), type := 44, pos := _, after := #[], guard := none }) (v := .pointer (some ⟨c.sb, 0, none⟩)) rfl (by kernel_rfl) (by kernel_rfl) (by kernel_rfl) (fun _ _ _ h => h) (Or.inl ⟨by rfl, fun W hSW => by go_simp⟩) (by assumption) ?_
        try simp only [Act.put, List.setIfInBounds_toArray, List.set_cons_zero, List.set_cons_succ]
        refine wpAnyH_take (i := 6) (oi := { dst := some 75, op := .nilCheck (.tmp 74), type := 0, pos := _, after := #[{ on := 5, ground := .data }], guard := none }) (v := .pointer (some ⟨c.sb, 0, none⟩)) rfl (by kernel_rfl) (by kernel_rfl) (by kernel_rfl) (fun _ _ _ h => h) (Or.inl ⟨by rfl, fun W hSW => by go_simp⟩) (by assumption) ?_
        try simp only [Act.put, List.setIfInBounds_toArray, List.set_cons_zero, List.set_cons_succ]
        refine wpAnyH_take (i := 7) (oi := { dst := some 76, op := .fieldAddr 70 (.tmp 75) 5, type := 0, pos := _, after := #[{ on := 6, ground := .data }], guard := none }) (v := .pointer (some ⟨c.sb, 5, none⟩)) rfl (by kernel_rfl) (by kernel_rfl) (by kernel_rfl) (fun _ _ _ h => h) (Or.inl ⟨by rfl, fun W hSW => by go_simp⟩) (by assumption) ?_
        try simp only [Act.put, List.setIfInBounds_toArray, List.set_cons_zero, List.set_cons_succ]
        refine wpAnyH_take (i := 8) (oi := { dst := some 77, op := .load 64 (.tmp 76), type := 64, pos := _, after := #[{ on := 7, ground := .data }], guard := none }) (v := .slice (some ⟨g, 0, none⟩) N cap) rfl (by kernel_rfl) (by kernel_rfl) (by kernel_rfl) (fun _ _ _ h => h) (Or.inl ⟨by rfl, fun W hSW => by have hc2 : W.cell? ⟨c.sb, 5, none⟩ = some (.slice (some ⟨g, 0, none⟩) N cap) := hSW; go_simp⟩) (by assumption) ?_
        try simp only [Act.put, List.setIfInBounds_toArray, List.set_cons_zero, List.set_cons_succ]
        refine wpAnyH_take (i := 9) (oi := { dst := some 78, op := .move (.tmp 10), type := 3, pos := _, after := #[], guard := none }) (v := .int .i64 (j : Int)) rfl (by kernel_rfl) (by kernel_rfl) (by kernel_rfl) (fun _ _ _ h => h) (Or.inl ⟨by rfl, fun W hSW => by go_simp⟩) (by assumption) ?_
        try simp only [Act.put, List.setIfInBounds_toArray, List.set_cons_zero, List.set_cons_succ]
        refine wpAnyH_take (i := 10) (oi := { dst := some 79, op := .indexAddr 64 (.tmp 77) (.tmp 78), type := 0, pos := _, after := #[{ on := 8, ground := .data }, { on := 9, ground := .data }], guard := none }) (v := .pointer (some ⟨g, j, none⟩)) rfl (by kernel_rfl) (by kernel_rfl) (by kernel_rfl) (fun _ _ _ h => h) (Or.inl ⟨by rfl, fun W hSW => by go_simp⟩) (by assumption) ?_
        try simp only [Act.put, List.setIfInBounds_toArray, List.set_cons_zero, List.set_cons_succ]
        refine wpAnyH_take (i := 12) (oi := { dst := some 81, op := .move (.tmp 1), type := 2, pos := _, after := #[], guard := none }) (v := .int .i64 a) rfl (by kernel_rfl) (by kernel_rfl) (by kernel_rfl) (fun _ _ _ h => h) (Or.inl ⟨by rfl, fun W hSW => by go_simp⟩) (by assumption) ?_
        try simp only [Act.put, List.setIfInBounds_toArray, List.set_cons_zero, List.set_cons_succ]
        refine wpAnyH_take (i := 13) (oi := { dst := some 82, op := .move (.tmp 4), type := 3, pos := _, after := #[], guard := none }) (v := .int .i64 d) rfl (by kernel_rfl) (by kernel_rfl) (by kernel_rfl) (fun _ _ _ h => h) (Or.inl ⟨by rfl, fun W hSW => by go_simp⟩) (by assumption) ?_
        try simp only [Act.put, List.setIfInBounds_toArray, List.set_cons_zero, List.set_cons_succ]
        refine wpAnyH_take (i := 14) (oi := { dst := some 83, op := .build 76 #[(0, .tmp 81), (1, .tmp 82)], type := 76, pos := _, after := #[{ on := 12, ground := .data }, { on := 13, ground := .data }], guard := none }) (v := .agg #[.int .i64 a, .int .i64 d]) rfl (by kernel_rfl) (by kernel_rfl) (by kernel_rfl) (fun _ _ _ h => h) (Or.inl ⟨by rfl, fun W hSW => by go_simp⟩) (by assumption) ?_
        try simp only [Act.put, List.setIfInBounds_toArray, List.set_cons_zero, List.set_cons_succ]
        refine wpAnyH_ready (rs := [11, 15]) (by kernel_rfl) (by simp) ?_
        refine (AllReadyH.cons (o := { dst := some 80, op := .load 66 (.tmp 79), type := 66, pos := _, after := #[{ on := 10, ground := .data }], guard := none }) rfl (fun K hK => ?_) (AllReadyH.cons (o := { dst := some 84, op := .buildSlice 66 1 #[(0, .tmp 83)], type := 66, pos := _, after := #[{ on := 14, ground := .data }], guard := none }) rfl (fun K hK => ?_) AllReadyH.nil))
        · go_simp
          refine hK.out _ _ (by exact c5') (fun hHeld => ?_)
          clear hK K
          try simp only [Act.put, List.setIfInBounds_toArray, List.set_cons_zero, List.set_cons_succ]
          refine wpAnyH_ready (rs := [15]) (by kernel_rfl) (by simp) ?_
          refine (AllReadyH.cons (o := { dst := some 84, op := .buildSlice 66 1 #[(0, .tmp 83)], type := 66, pos := _, after := #[{ on := 14, ground := .data }], guard := none }) rfl (fun K hK => ?_) AllReadyH.nil)
          go_simp
          refine hK.out _ _ (by go_keep) (fun hHeld => ?_)
          clear hK K
          try simp only [Act.put, List.setIfInBounds_toArray, List.set_cons_zero, List.set_cons_succ]
          refine wpAnyH_ready (rs := [16]) (by kernel_rfl) (by simp) ?_
          refine (AllReadyH.cons (o := { dst := some 85, op := .call { callee := .builtin .append, args := #[.tmp 80, .tmp 84], argTypes := #[66, 66] }, type := 66, pos := _, after := #[{ on := 11, ground := .data }, { on := 15, ground := .data }], guard := none }) rfl (fun K hK => ?_) AllReadyH.nil)
          refine step_env (w0 := V.drew) (by rfl) (.tmp 80) (.tmp 84) (by rfl) (by rfl) (by rfl) (by rfl) (by exact HIV) hm9 (by exact HBV) (by exact Hid.mk'' H5.out.1.drew) (by exact c5') (by exact cj') ?_
          intro ao1 k1 w2 HI1 H6 HT1 g0 d5 dj
          refine hK.out _ _ d5 (fun hHeld => ?_)
          clear hK K
          try simp only [Act.put, List.setIfInBounds_toArray, List.set_cons_zero, List.set_cons_succ]
          refine wpAnyH_take (i := 17) (oi := { dst := some 86, op := .indexAddr 64 (.tmp 72) (.tmp 73), type := 0, pos := _, after := #[{ on := 3, ground := .data }, { on := 4, ground := .data }, { on := 0, ground := .phase }, { on := 1, ground := .phase }, { on := 2, ground := .phase }, { on := 3, ground := .phase }, { on := 4, ground := .phase }, { on := 5, ground := .phase }, { on := 6, ground := .phase }, { on := 7, ground := .phase }, { on := 8, ground := .phase }, { on := 9, ground := .phase }, { on := 10, ground := .phase }, { on := 11, ground := .phase }, { on := 12, ground := .phase }, { on := 13, ground := .phase }, { on := 14, ground := .phase }, { on := 15, ground := .phase }, { on := 16, ground := .phase }], guard := none }) (v := .pointer (some ⟨g, j, none⟩)) rfl (by kernel_rfl) (by kernel_rfl) (by kernel_rfl) (fun _ _ _ h => h) (Or.inl ⟨by rfl, fun W hSW => by go_simp⟩) (by assumption) ?_
          try simp only [Act.put, List.setIfInBounds_toArray, List.set_cons_zero, List.set_cons_succ]
          refine wpAnyH_ready (rs := [18]) (by kernel_rfl) (by simp) ?_
          refine (AllReadyH.cons (o := { dst := none, op := .store 66 (.tmp 86) (.tmp 85), type := 0, pos := _, after := #[{ on := 17, ground := .data }, { on := 16, ground := .data }, { on := 16, ground := .chain }, { on := 0, ground := .phase }, { on := 1, ground := .phase }, { on := 2, ground := .phase }, { on := 3, ground := .phase }, { on := 4, ground := .phase }, { on := 5, ground := .phase }, { on := 6, ground := .phase }, { on := 7, ground := .phase }, { on := 8, ground := .phase }, { on := 9, ground := .phase }, { on := 10, ground := .phase }, { on := 11, ground := .phase }, { on := 12, ground := .phase }, { on := 13, ground := .phase }, { on := 14, ground := .phase }, { on := 15, ground := .phase }, { on := 16, ground := .phase }], guard := none }) rfl (fun K hK => ?_) AllReadyH.nil)
          go_simp
          have e5 : (w2.setCell ⟨g, j, none⟩ (.slice ao1 (m + 1) k1)).cell? ⟨c.sb, 5, none⟩ = some (.slice (some ⟨g, 0, none⟩) N cap) := by { rw [World.cell?_setCell_far _ _ _ _ hgs]; exact d5 }
          refine hK.out _ _ e5 (fun hHeld => ?_)
          clear hK K
          try simp only [Act.put, List.setIfInBounds_toArray, List.set_cons_zero, List.set_cons_succ]
          refine wpAnyH_done (by kernel_rfl) ?_ _
          go_wp2_with fail
          refine bodyPost_ret (v := .tuple #[]) (by simp [results, Tryf.results15, go_sem]) rfl ?_
          have k := H6.out.put (by rw [← HNn.out]; exact d5) j HLj.out _ (m + 1) HI1.out (by have := HmK.out; omega) (Nat.le_succ K)
          exact ⟨rfl, k.1, (H5.out.2.trans ((((Tame.refl false V (fun _ => False)).drew.trans HT1.out).up true).mono fun _ _ q => q.elim)).trans k.2⟩
        · go_simp
          refine hK.out _ _ (by go_keep) (fun hHeld => ?_)
          clear hK K
          try simp only [Act.put, List.setIfInBounds_toArray, List.set_cons_zero, List.set_cons_succ]
          refine wpAnyH_ready (rs := [11]) (by kernel_rfl) (by simp) ?_
          refine (AllReadyH.cons (o := { dst := some 80, op := .load 66 (.tmp 79), type := 66, pos := _, after := #[{ on := 10, ground := .data }], guard := none }) rfl (fun K hK => ?_) AllReadyH.nil)
          go_simp
          refine hK.out _ _ (by exact hHeld) (fun hHeld => ?_)
          clear hK K
          try simp only [Act.put, List.setIfInBounds_toArray, List.set_cons_zero, List.set_cons_succ]
          refine wpAnyH_ready (rs := [16]) (by kernel_rfl) (by simp) ?_
          refine (AllReadyH.cons (o := { dst := some 85, op := .call { callee := .builtin .append, args := #[.tmp 80, .tmp 84], argTypes := #[66, 66] }, type := 66, pos := _, after := #[{ on := 11, ground := .data }, { on := 15, ground := .data }], guard := none }) rfl (fun K hK => ?_) AllReadyH.nil)
          refine step_env (w0 := V.drew) (by rfl) (.tmp 80) (.tmp 84) (by rfl) (by rfl) (by rfl) (by rfl) (by exact HIV) hm9 (by exact HBV) (by exact Hid.mk'' H5.out.1.drew) (by exact c5') (by exact cj') ?_
          intro ao1 k1 w2 HI1 H6 HT1 g0 d5 dj
          refine hK.out _ _ d5 (fun hHeld => ?_)
          clear hK K
          try simp only [Act.put, List.setIfInBounds_toArray, List.set_cons_zero, List.set_cons_succ]
          refine wpAnyH_take (i := 17) (oi := { dst := some 86, op := .indexAddr 64 (.tmp 72) (.tmp 73), type := 0, pos := _, after := #[{ on := 3, ground := .data }, { on := 4, ground := .data }, { on := 0, ground := .phase }, { on := 1, ground := .phase }, { on := 2, ground := .phase }, { on := 3, ground := .phase }, { on := 4, ground := .phase }, { on := 5, ground := .phase }, { on := 6, ground := .phase }, { on := 7, ground := .phase }, { on := 8, ground := .phase }, { on := 9, ground := .phase }, { on := 10, ground := .phase }, { on := 11, ground := .phase }, { on := 12, ground := .phase }, { on := 13, ground := .phase }, { on := 14, ground := .phase }, { on := 15, ground := .phase }, { on := 16, ground := .phase }], guard := none }) (v := .pointer (some ⟨g, j, none⟩)) rfl (by kernel_rfl) (by kernel_rfl) (by kernel_rfl) (fun _ _ _ h => h) (Or.inl ⟨by rfl, fun W hSW => by go_simp⟩) (by assumption) ?_
          try simp only [Act.put, List.setIfInBounds_toArray, List.set_cons_zero, List.set_cons_succ]
          refine wpAnyH_ready (rs := [18]) (by kernel_rfl) (by simp) ?_
          refine (AllReadyH.cons (o := { dst := none, op := .store 66 (.tmp 86) (.tmp 85), type := 0, pos := _, after := #[{ on := 17, ground := .data }, { on := 16, ground := .data }, { on := 16, ground := .chain }, { on := 0, ground := .phase }, { on := 1, ground := .phase }, { on := 2, ground := .phase }, { on := 3, ground := .phase }, { on := 4, ground := .phase }, { on := 5, ground := .phase }, { on := 6, ground := .phase }, { on := 7, ground := .phase }, { on := 8, ground := .phase }, { on := 9, ground := .phase }, { on := 10, ground := .phase }, { on := 11, ground := .phase }, { on := 12, ground := .phase }, { on := 13, ground := .phase }, { on := 14, ground := .phase }, { on := 15, ground := .phase }, { on := 16, ground := .phase }], guard := none }) rfl (fun K hK => ?_) AllReadyH.nil)
          go_simp
          have e5 : (w2.setCell ⟨g, j, none⟩ (.slice ao1 (m + 1) k1)).cell? ⟨c.sb, 5, none⟩ = some (.slice (some ⟨g, 0, none⟩) N cap) := by { rw [World.cell?_setCell_far _ _ _ _ hgs]; exact d5 }
          refine hK.out _ _ e5 (fun hHeld => ?_)
          clear hK K
          try simp only [Act.put, List.setIfInBounds_toArray, List.set_cons_zero, List.set_cons_succ]
          refine wpAnyH_done (by kernel_rfl) ?_ _
          go_wp2_with fail
          refine bodyPost_ret (v := .tuple #[]) (by simp [results, Tryf.results15, go_sem]) rfl ?_
          have k := H6.out.put (by rw [← HNn.out]; exact d5) j HLj.out _ (m + 1) HI1.out (by have := HmK.out; omega) (Nat.le_succ K)
          exact ⟨rfl, k.1, (H5.out.2.trans ((((Tame.refl false V (fun _ => False)).drew.trans HT1.out).up true).mono fun _ _ q => q.elim)).trans k.2⟩
      · go_simp
        refine hK.out _ _ (by exact hHeld) (fun hHeld => ?_)
        clear hK K
        try simp only [Act.put, List.setIfInBounds_toArray, List.set_cons_zero, List.set_cons_succ]
        refine wpAnyH_take (i := 14) (oi := { dst := some 64, op := .call { callee := .builtin .len, args := #[.tmp 63], argTypes := #[64] }, type := 3, pos := _, after := #[{ on := 13, ground := .data }], guard := none }) (v := .int .i64 0) rfl (by kernel_rfl) (by kernel_rfl) (by kernel_rfl) (fun _ _ _ h => h) (Or.inl ⟨by rfl, fun W hSW => by go_simp⟩) (by assumption) ?_
        try simp only [Act.put, List.setIfInBounds_toArray, List.set_cons_zero, List.set_cons_succ]
        refine wpAnyH_take (i := 15) (oi := { dst := some 65, op := .binOp .sub 3 (.tmp 59) (.tmp 64) 3, type := 3, pos := _, after := #[{ on := 9, ground := .data }, { on := 14, ground := .data }], guard := none }) (v := .int .i64 (N : Int)) rfl (by kernel_rfl) (by kernel_rfl) (by kernel_rfl) (fun _ _ _ h => h) (Or.inl ⟨by rfl, fun W hSW => by go_simp⟩) (by assumption) ?_
        try simp only [Act.put, List.setIfInBounds_toArray, List.set_cons_zero, List.set_cons_succ]
        refine wpAnyH_ready (rs := [4]) (by kernel_rfl) (by simp) ?_
        refine (AllReadyH.cons (o := { dst := some 54, op := .load 64 (.tmp 53), type := 64, pos := _, after := #[{ on := 3, ground := .data }], guard := none }) rfl (fun K hK => ?_) AllReadyH.nil)
        go_simp
        refine hK.out _ _ (by exact hHeld) (fun hHeld => ?_)
        clear hK K
        try simp only [Act.put, List.setIfInBounds_toArray, List.set_cons_zero, List.set_cons_succ]
        refine wpAnyH_ready (rs := [16]) (by kernel_rfl) (by simp) ?_
        refine (AllReadyH.cons (o := { dst := some 66, op := .call { callee := .builtin .append, args := #[.tmp 54, .tmp 65], argTypes := #[64, 3] }, type := 64, pos := _, after := #[{ on := 4, ground := .data }, { on := 15, ground := .data }], guard := none }) rfl (fun K hK => ?_) AllReadyH.nil)
        refine step_zeros (w := w1'.drew) (by rfl) (.tmp 54) (.tmp 65) (by rfl) (by rfl) (by rfl) (by omega) HNn.out (by exact Hid.mk'' H3'.out.1.drew) (by exact c3') (by exact c5') ?_
        intro g cap w2 HWT H6 HT1 g0 d3 d5
        refine hK.out _ _ d3 (fun hHeld => ?_)
        clear hK K
        try simp only [Act.put, List.setIfInBounds_toArray, List.set_cons_zero, List.set_cons_succ]
        refine wpAnyH_take (i := 17) (oi := { dst := some 67, op := .nilCheck (.tmp 50), type := 0, pos := _, after := #[{ on := 0, ground := .data }, { on := 0, ground := .phase }, { on := 1, ground := .phase }, { on := 2, ground := .phase }, { on := 3, ground := .phase }, { on := 4, ground := .phase }, { on := 5, ground := .phase }, { on := 6, ground := .phase }, { on := 7, ground := .phase }, { on := 8, ground := .phase }, { on := 9, ground := .phase }, { on := 10, ground := .phase }, { on := 11, ground := .phase }, { on := 12, ground := .phase }, { on := 13, ground := .phase }, { on := 14, ground := .phase }, { on := 15, ground := .phase }, { on := 16, ground := .phase }], guard := none }) (v := .pointer (some ⟨c.sb, 0, none⟩)) rfl (by kernel_rfl) (by kernel_rfl) (by kernel_rfl) (fun _ _ _ h => h) (Or.inl ⟨by rfl, fun W hSW => by go_simp⟩) (by assumption) ?_
        try simp only [Act.put, List.setIfInBounds_toArray, List.set_cons_zero, List.set_cons_succ]
        refine wpAnyH_take (i := 18) (oi := { dst := some 68, op := .fieldAddr 70 (.tmp 67) 5, type := 0, pos := _, after := #[{ on := 17, ground := .data }, { on := 0, ground := .phase }, { on := 1, ground := .phase }, { on := 2, ground := .phase }, { on := 3, ground := .phase }, { on := 4, ground := .phase }, { on := 5, ground := .phase }, { on := 6, ground := .phase }, { on := 7, ground := .phase }, { on := 8, ground := .phase }, { on := 9, ground := .phase }, { on := 10, ground := .phase }, { on := 11, ground := .phase }, { on := 12, ground := .phase }, { on := 13, ground := .phase }, { on := 14, ground := .phase }, { on := 15, ground := .phase }, { on := 16, ground := .phase }], guard := none }) (v := .pointer (some ⟨c.sb, 5, none⟩)) rfl (by kernel_rfl) (by kernel_rfl) (by kernel_rfl) (fun _ _ _ h => h) (Or.inl ⟨by rfl, fun W hSW => by go_simp⟩) (by assumption) ?_
        try simp only [Act.put, List.setIfInBounds_toArray, List.set_cons_zero, List.set_cons_succ]
        refine wpAnyH_ready (rs := [19]) (by kernel_rfl) (by simp) ?_
        refine (AllReadyH.cons (o := { dst := none, op := .store 64 (.tmp 68) (.tmp 66), type := 0, pos := _, after := #[{ on := 18, ground := .data }, { on := 16, ground := .data }, { on := 16, ground := .chain }, { on := 0, ground := .phase }, { on := 1, ground := .phase }, { on := 2, ground := .phase }, { on := 3, ground := .phase }, { on := 4, ground := .phase }, { on := 5, ground := .phase }, { on := 6, ground := .phase }, { on := 7, ground := .phase }, { on := 8, ground := .phase }, { on := 9, ground := .phase }, { on := 10, ground := .phase }, { on := 11, ground := .phase }, { on := 12, ground := .phase }, { on := 13, ground := .phase }, { on := 14, ground := .phase }, { on := 15, ground := .phase }, { on := 16, ground := .phase }], guard := none }) rfl (fun K hK => ?_) AllReadyH.nil)
        go_simp
        have e3 : (w2.setCell ⟨c.sb, 5, none⟩ (.slice (some ⟨g, 0, none⟩) N cap)).cell? ⟨c.sb, 3, none⟩ = some (.slice (some ⟨gs', 0, none⟩) N c.sc) := by { rw [World.cell?_setCell_other _ _ _ _ (fun e => by cases e)]; exact d3 }
        refine hK.out _ _ e3 (fun hHeld => ?_)
        clear hK K
        try simp only [Act.put, List.setIfInBounds_toArray, List.set_cons_zero, List.set_cons_succ]
        refine wpAnyH_done (by kernel_rfl) ?_ _
        go_wp2_with fail
        obtain ⟨V, hV⟩ : ∃ V, V = w2.setCell ⟨c.sb, 5, none⟩ (.slice (some ⟨g, 0, none⟩) N cap) := ⟨_, rfl⟩
        have H5 : Hid (ST B V c (up s i 1) r M K ∧ Tame B true w V c.own) := by { rw [hV]; have k := H6.out.wait _ (HWT.out.mono (Nat.zero_le K)); exact ⟨k.1, (H3'.out.2.trans ((((Tame.refl false w1' (fun _ => False)).drew.trans HT1.out).up true).mono fun _ _ q => q.elim)).trans k.2⟩ }
        clear c5'; have c5' : V.cell? ⟨c.sb, 5, none⟩ = some (.slice (some ⟨g, 0, none⟩) N cap) := by { rw [hV]; obtain ⟨wv, h1, _⟩ := H6.out.sb; exact Blk.cell (Blk.set h1 5 _) 5 }
        rw [← hV]
        clear hV H3' H6 HWT HT1 g0 d3 d5 e3 hHeld c3'
        obtain ⟨cur, ao, m, k, hBV, cj', hIV, hmK⟩ := H5.out.1.w5' (by rw [← HNn.out]; exact c5') HLj.out
        have HBV := Hid.mk'' hBV
        have fj' := hBV.frozen
        have HIV := Hid.mk'' hIV
        have HmK := Hid.mk'' hmK
        have hgs : ¬ g = c.sb := by { obtain ⟨wv, h1, _⟩ := H5.out.1.sb; intro e; exact Blk.notT h1 (T' := 66) (by decide) _ (by rw [← e]; exact HBV.out) }
        have hm9 : m ≤ 900000 := by omega
        have cja : (V.alloc (.cells #[.int .i64 a, .int .i64 d] 76)).cell? ⟨g, j, none⟩ = some (.slice ao m k) := (hBV.alloc _).cell j |>.trans ((hBV.cell j).symm.trans cj')
        clear hBV hIV hmK
        refine wp_region_held_drew (S := fun W => W.cell? ⟨c.sb, 5, none⟩ = some (.slice (some ⟨g, 0, none⟩) N cap)) (by kernel_rfl) (by exact c5') (fun hHeld => ?_)
        refine wpAnyH_take (i := 0) (oi := { dst := some 69, op := .move (.tmp 0), type := 44, pos := _, after := #[], guard := none }) (v := .pointer (some ⟨c.sb, 0, none⟩)) rfl (by kernel_rfl) (by kernel_rfl) (by kernel_rfl) (fun _ _ _ h => h) (Or.inl ⟨by rfl, fun W hSW => by go_simp⟩) (by assumption) ?_
        try simp only [Act.put, List.setIfInBounds_toArray, List.set_cons_zero, List.set_cons_succ]
        refine wpAnyH_take (i := 1) (oi := { dst := some 70, op := .nilCheck (.tmp 69), type := 0, pos := _, after := #[{ on := 0, ground := .data }], guard := none }) (v := .pointer (some ⟨c.sb, 0, none⟩)) rfl (by kernel_rfl) (by kernel_rfl) (by kernel_rfl) (fun _ _ _ h => h) (Or.inl ⟨by rfl, fun W hSW => by go_simp⟩) (by assumption) ?_
        try simp only [Act.put, List.setIfInBounds_toArray, List.set_cons_zero, List.set_cons_succ]
        refine wpAnyH_take (i := 2) (oi := { dst := some 71, op := .fieldAddr 70 (.tmp 70) 5, type := 0, pos := _, after := #[{ on := 1, ground := .data }], guard := none }) (v := .pointer (some ⟨c.sb, 5, none⟩)) rfl (by kernel_rfl) (by kernel_rfl) (by kernel_rfl) (fun _ _ _ h => h) (Or.inl ⟨by rfl, fun W hSW => by go_simp⟩) (by assumption) ?_
        try simp only [Act.put, List.setIfInBounds_toArray, List.set_cons_zero, List.set_cons_succ]
        refine wpAnyH_take (i := 3) (oi := { dst := some 72, op := .load 64 (.tmp 71), type := 64, pos := _, after := #[{ on := 2, ground := .data }], guard := none }) (v := .slice (some ⟨g, 0, none⟩) N cap) rfl (by kernel_rfl) (by kernel_rfl) (by kernel_rfl) (fun _ _ _ h => h) (Or.inl ⟨by rfl, fun W hSW => by have hc2 : W.cell? ⟨c.sb, 5, none⟩ = some (.slice (some ⟨g, 0, none⟩) N cap) := hSW; go_simp⟩) (by assumption) ?_
        try simp only [Act.put, List.setIfInBounds_toArray, List.set_cons_zero, List.set_cons_succ]
        refine wpAnyH_take (i := 4) (oi := { dst := some 73, op := .move (.tmp 10), type := 3, pos := _, after := #[], guard := none }) (v := .int .i64 (j : Int)) rfl (by kernel_rfl) (by kernel_rfl) (by kernel_rfl) (fun _ _ _ h => h) (Or.inl ⟨by rfl, fun W hSW => by go_simp⟩) (by assumption) ?_
        try simp only [Act.put, List.setIfInBounds_toArray, List.set_cons_zero, List.set_cons_succ]
        refine wpAnyH_take (i := 5) (oi := { dst := some 74, op := .move (.tmp 0), type := 44, pos := _, after := #[], guard := none }) (v := .pointer (some ⟨c.sb, 0, none⟩)) rfl (by kernel_rfl) (by kernel_rfl) (by kernel_rfl) (fun _ _ _ h => h) (Or.inl ⟨by rfl, fun W hSW => by go_simp⟩) (by assumption) ?_
        try simp only [Act.put, List.setIfInBounds_toArray, List.set_cons_zero, List.set_cons_succ]
        refine wpAnyH_take (i := 6) (oi := { dst := some 75, op := .nilCheck (.tmp 74), type := 0, pos := _, after := #[{ on := 5, ground := .data }], guard := none }) (v := .pointer (some ⟨c.sb, 0, none⟩)) rfl (by kernel_rfl) (by kernel_rfl) (by kernel_rfl) (fun _ _ _ h => h) (Or.inl ⟨by rfl, fun W hSW => by go_simp⟩) (by assumption) ?_
        try simp only [Act.put, List.setIfInBounds_toArray, List.set_cons_zero, List.set_cons_succ]
        refine wpAnyH_take (i := 7) (oi := { dst := some 76, op := .fieldAddr 70 (.tmp 75) 5, type := 0, pos := _, after := #[{ on := 6, ground := .data }], guard := none }) (v := .pointer (some ⟨c.sb, 5, none⟩)) rfl (by kernel_rfl) (by kernel_rfl) (by kernel_rfl) (fun _ _ _ h => h) (Or.inl ⟨by rfl, fun W hSW => by go_simp⟩) (by assumption) ?_
        try simp only [Act.put, List.setIfInBounds_toArray, List.set_cons_zero, List.set_cons_succ]
        refine wpAnyH_take (i := 8) (oi := { dst := some 77, op := .load 64 (.tmp 76), type := 64, pos := _, after := #[{ on := 7, ground := .data }], guard := none }) (v := .slice (some ⟨g, 0, none⟩) N cap) rfl (by kernel_rfl) (by kernel_rfl) (by kernel_rfl) (fun _ _ _ h => h) (Or.inl ⟨by rfl, fun W hSW => by have hc2 : W.cell? ⟨c.sb, 5, none⟩ = some (.slice (some ⟨g, 0, none⟩) N cap) := hSW; go_simp⟩) (by assumption) ?_
        try simp only [Act.put, List.setIfInBounds_toArray, List.set_cons_zero, List.set_cons_succ]
        refine wpAnyH_take (i := 9) (oi := { dst := some 78, op := .move (.tmp 10), type := 3, pos := _, after := #[], guard := none }) (v := .int .i64 (j : Int)) rfl (by kernel_rfl) (by kernel_rfl) (by kernel_rfl) (fun _ _ _ h => h) (Or.inl ⟨by rfl, fun W hSW => by go_simp⟩) (by assumption) ?_
        try simp only [Act.put, List.setIfInBounds_toArray, List.set_cons_zero, List.set_cons_succ]
        refine wpAnyH_take (i := 10) (oi := { dst := some 79, op := .indexAddr 64 (.tmp 77) (.tmp 78), type := 0, pos := _, after := #[{ on := 8, ground := .data }, { on := 9, ground := .data }], guard := none }) (v := .pointer (some ⟨g, j, none⟩)) rfl (by kernel_rfl) (by kernel_rfl) (by kernel_rfl) (fun _ _ _ h => h) (Or.inl ⟨by rfl, fun W hSW => by go_simp⟩) (by assumption) ?_
        try simp only [Act.put, List.setIfInBounds_toArray, List.set_cons_zero, List.set_cons_succ]
        refine wpAnyH_take (i := 12) (oi := { dst := some 81, op := .move (.tmp 1), type := 2, pos := _, after := #[], guard := none }) (v := .int .i64 a) rfl (by kernel_rfl) (by kernel_rfl) (by kernel_rfl) (fun _ _ _ h => h) (Or.inl ⟨by rfl, fun W hSW => by go_simp⟩) (by assumption) ?_
        try simp only [Act.put, List.setIfInBounds_toArray, List.set_cons_zero, List.set_cons_succ]
        refine wpAnyH_take (i := 13) (oi := { dst := some 82, op := .move (.tmp 4), type := 3, pos := _, after := #[], guard := none }) (v := .int .i64 d) rfl (by kernel_rfl) (by kernel_rfl) (by kernel_rfl) (fun _ _ _ h => h) (Or.inl ⟨by rfl, fun W hSW => by go_simp⟩) (by assumption) ?_
        try simp only [Act.put, List.setIfInBounds_toArray, List.set_cons_zero, List.set_cons_succ]
        refine wpAnyH_take (i := 14) (oi := { dst := some 83, op := .build 76 #[(0, .tmp 81), (1, .tmp 82)], type := 76, pos := _, after := #[{ on := 12, ground := .data }, { on := 13, ground := .data }], guard := none }) (v := .agg #[.int .i64 a, .int .i64 d]) rfl (by kernel_rfl) (by kernel_rfl) (by kernel_rfl) (fun _ _ _ h => h) (Or.inl ⟨by rfl, fun W hSW => by go_simp⟩) (by assumption) ?_
        try simp only [Act.put, List.setIfInBounds_toArray, List.set_cons_zero, List.set_cons_succ]
        refine wpAnyH_ready (rs := [11, 15]) (by kernel_rfl) (by simp) ?_
        refine (AllReadyH.cons (o := { dst := some 80, op := .load 66 (.tmp 79), type := 66, pos := _, after := #[{ on := 10, ground := .data }], guard := none }) rfl (fun K hK => ?_) (AllReadyH.cons (o := { dst := some 84, op := .buildSlice 66 1 #[(0, .tmp 83)], type := 66, pos := _, after := #[{ on := 14, ground := .data }], guard := none }) rfl (fun K hK => ?_) AllReadyH.nil))
        · go_simp
          refine hK.out _ _ (by exact c5') (fun hHeld => ?_)
          clear hK K
          try simp only [Act.put, List.setIfInBounds_toArray, List.set_cons_zero, List.set_cons_succ]
          refine wpAnyH_ready (rs := [15]) (by kernel_rfl) (by simp) ?_
          refine (AllReadyH.cons (o := { dst := some 84, op := .buildSlice 66 1 #[(0, .tmp 83)], type := 66, pos := _, after := #[{ on := 14, ground := .data }], guard := none }) rfl (fun K hK => ?_) AllReadyH.nil)
          go_simp
          refine hK.out _ _ (by go_keep) (fun hHeld => ?_)
          clear hK K
          try simp only [Act.put, List.setIfInBounds_toArray, List.set_cons_zero, List.set_cons_succ]
          refine wpAnyH_ready (rs := [16]) (by kernel_rfl) (by simp) ?_
          refine (AllReadyH.cons (o := { dst := some 85, op := .call { callee := .builtin .append, args := #[.tmp 80, .tmp 84], argTypes := #[66, 66] }, type := 66, pos := _, after := #[{ on := 11, ground := .data }, { on := 15, ground := .data }], guard := none }) rfl (fun K hK => ?_) AllReadyH.nil)
          refine step_env (w0 := V.drew) (by rfl) (.tmp 80) (.tmp 84) (by rfl) (by rfl) (by rfl) (by rfl) (by exact HIV) hm9 (by exact HBV) (by exact Hid.mk'' H5.out.1.drew) (by exact c5') (by exact cj') ?_
          intro ao1 k1 w2 HI1 H6 HT1 g0 d5 dj
          refine hK.out _ _ d5 (fun hHeld => ?_)
          clear hK K
          try simp only [Act.put, List.setIfInBounds_toArray, List.set_cons_zero, List.set_cons_succ]
          refine wpAnyH_take (i := 17) (oi := { dst := some 86, op := .indexAddr 64 (.tmp 72) (.tmp 73), type := 0, pos := _, after := #[{ on := 3, ground := .data }, { on := 4, ground := .data }, { on := 0, ground := .phase }, { on := 1, ground := .phase }, { on := 2, ground := .phase }, { on := 3, ground := .phase }, { on := 4, ground := .phase }, { on := 5, ground := .phase }, { on := 6, ground := .phase }, { on := 7, ground := .phase }, { on := 8, ground := .phase }, { on := 9, ground := .phase }, { on := 10, ground := .phase }, { on := 11, ground := .phase }, { on := 12, ground := .phase }, { on := 13, ground := .phase }, { on := 14, ground := .phase }, { on := 15, ground := .phase }, { on := 16, ground := .phase }], guard := none }) (v := .pointer (some ⟨g, j, none⟩)) rfl (by kernel_rfl) (by kernel_rfl) (by kernel_rfl) (fun _ _ _ h => h) (Or.inl ⟨by rfl, fun W hSW => by go_simp⟩) (by assumption) ?_
          try simp only [Act.put, List.setIfInBounds_toArray, List.set_cons_zero, List.set_cons_succ]
          refine wpAnyH_ready (rs := [18]) (by kernel_rfl) (by simp) ?_
          refine (AllReadyH.cons (o := { dst := none, op := .store 66 (.tmp 86) (.tmp 85), type := 0, pos := _, after := #[{ on := 17, ground := .data }, { on := 16, ground := .data }, { on := 16, ground := .chain }, { on := 0, ground := .phase }, { on := 1, ground := .phase }, { on := 2, ground := .phase }, { on := 3, ground := .phase }, { on := 4, ground := .phase }, { on := 5, ground := .phase }, { on := 6, ground := .phase }, { on := 7, ground := .phase }, { on := 8, ground := .phase }, { on := 9, ground := .phase }, { on := 10, ground := .phase }, { on := 11, ground := .phase }, { on := 12, ground := .phase }, { on := 13, ground := .phase }, { on := 14, ground := .phase }, { on := 15, ground := .phase }, { on := 16, ground := .phase }], guard := none }) rfl (fun K hK => ?_) AllReadyH.nil)
          go_simp
          have e5 : (w2.setCell ⟨g, j, none⟩ (.slice ao1 (m + 1) k1)).cell? ⟨c.sb, 5, none⟩ = some (.slice (some ⟨g, 0, none⟩) N cap) := by { rw [World.cell?_setCell_far _ _ _ _ hgs]; exact d5 }
          refine hK.out _ _ e5 (fun hHeld => ?_)
          clear hK K
          try simp only [Act.put, List.setIfInBounds_toArray, List.set_cons_zero, List.set_cons_succ]
          refine wpAnyH_done (by kernel_rfl) ?_ _
          go_wp2_with fail
          refine bodyPost_ret (v := .tuple #[]) (by simp [results, Tryf.results15, go_sem]) rfl ?_
          have k := H6.out.put (by rw [← HNn.out]; exact d5) j HLj.out _ (m + 1) HI1.out (by have := HmK.out; omega) (Nat.le_succ K)
          exact ⟨rfl, k.1, (H5.out.2.trans ((((Tame.refl false V (fun _ => False)).drew.trans HT1.out).up true).mono fun _ _ q => q.elim)).trans k.2⟩
        · go_simp
          refine hK.out _ _ (by go_keep) (fun hHeld => ?_)
          clear hK K
          try simp only [Act.put, List.setIfInBounds_toArray, List.set_cons_zero, List.set_cons_succ]
          refine wpAnyH_ready (rs := [11]) (by kernel_rfl) (by simp) ?_
          refine (AllReadyH.cons (o := { dst := some 80, op := .load 66 (.tmp 79), type := 66, pos := _, after := #[{ on := 10, ground := .data }], guard := none }) rfl (fun K hK => ?_) AllReadyH.nil)
          go_simp
          refine hK.out _ _ (by exact hHeld) (fun hHeld => ?_)
          clear hK K
          try simp only [Act.put, List.setIfInBounds_toArray, List.set_cons_zero, List.set_cons_succ]
          refine wpAnyH_ready (rs := [16]) (by kernel_rfl) (by simp) ?_
          refine (AllReadyH.cons (o := { dst := some 85, op := .call { callee := .builtin .append, args := #[.tmp 80, .tmp 84], argTypes := #[66, 66] }, type := 66, pos := _, after := #[{ on := 11, ground := .data }, { on := 15, ground := .data }], guard := none }) rfl (fun K hK => ?_) AllReadyH.nil)
          refine step_env (w0 := V.drew) (by rfl) (.tmp 80) (.tmp 84) (by rfl) (by rfl) (by rfl) (by rfl) (by exact HIV) hm9 (by exact HBV) (by exact Hid.mk'' H5.out.1.drew) (by exact c5') (by exact cj') ?_
          intro ao1 k1 w2 HI1 H6 HT1 g0 d5 dj
          refine hK.out _ _ d5 (fun hHeld => ?_)
          clear hK K
          try simp only [Act.put, List.setIfInBounds_toArray, List.set_cons_zero, List.set_cons_succ]
          refine wpAnyH_take (i := 17) (oi := { dst := some 86, op := .indexAddr 64 (.tmp 72) (.tmp 73), type := 0, pos := _, after := #[{ on := 3, ground := .data }, { on := 4, ground := .data }, { on := 0, ground := .phase }, { on := 1, ground := .phase }, { on := 2, ground := .phase }, { on := 3, ground := .phase }, { on := 4, ground := .phase }, { on := 5, ground := .phase }, { on := 6, ground := .phase }, { on := 7, ground := .phase }, { on := 8, ground := .phase }, { on := 9, ground := .phase }, { on := 10, ground := .phase }, { on := 11, ground := .phase }, { on := 12, ground := .phase }, { on := 13, ground := .phase }, { on := 14, ground := .phase }, { on := 15, ground := .phase }, { on := 16, ground := .phase }], guard := none }) (v := .pointer (some ⟨g, j, none⟩)) rfl (by kernel_rfl) (by kernel_rfl) (by kernel_rfl) (fun _ _ _ h => h) (Or.inl ⟨by rfl, fun W hSW => by go_simp⟩) (by assumption) ?_
          try simp only [Act.put, List.setIfInBounds_toArray, List.set_cons_zero, List.set_cons_succ]
          refine wpAnyH_ready (rs := [18]) (by kernel_rfl) (by simp) ?_
          refine (AllReadyH.cons (o := { dst := none, op := .store 66 (.tmp 86) (.tmp 85), type := 0, pos := _, after := #[{ on := 17, ground := .data }, { on := 16, ground := .data }, { on := 16, ground := .chain }, { on := 0, ground := .phase }, { on := 1, ground := .phase }, { on := 2, ground := .phase }, { on := 3, ground := .phase }, { on := 4, ground := .phase }, { on := 5, ground := .phase }, { on := 6, ground := .phase }, { on := 7, ground := .phase }, { on := 8, ground := .phase }, { on := 9, ground := .phase }, { on := 10, ground := .phase }, { on := 11, ground := .phase }, { on := 12, ground := .phase }, { on := 13, ground := .phase }, { on := 14, ground := .phase }, { on := 15, ground := .phase }, { on := 16, ground := .phase }], guard := none }) rfl (fun K hK => ?_) AllReadyH.nil)
          go_simp
          have e5 : (w2.setCell ⟨g, j, none⟩ (.slice ao1 (m + 1) k1)).cell? ⟨c.sb, 5, none⟩ = some (.slice (some ⟨g, 0, none⟩) N cap) := by { rw [World.cell?_setCell_far _ _ _ _ hgs]; exact d5 }
          refine hK.out _ _ e5 (fun hHeld => ?_)
          clear hK K
          try simp only [Act.put, List.setIfInBounds_toArray, List.set_cons_zero, List.set_cons_succ]
          refine wpAnyH_done (by kernel_rfl) ?_ _
          go_wp2_with fail
          refine bodyPost_ret (v := .tuple #[]) (by simp [results, Tryf.results15, go_sem]) rfl ?_
          have k := H6.out.put (by rw [← HNn.out]; exact d5) j HLj.out _ (m + 1) HI1.out (by have := HmK.out; omega) (Nat.le_succ K)
          exact ⟨rfl, k.1, (H5.out.2.trans ((((Tame.refl false V (fun _ => False)).drew.trans HT1.out).up true).mono fun _ _ q => q.elim)).trans k.2⟩
    · clear hB hall hsz hcap
      go_wp2_with (refine (H3.out.1.iplace b j HJ.out).mono ?_; rintro e w1 ⟨rfl, hw1⟩; subst hw1)
      go_quiet (fail)
      go_wp2_with fail
      obtain ⟨V, hV⟩ : ∃ V, V = w1.drewN nq := ⟨_, rfl⟩
      have H5 : Hid (ST B V c (up s i 1) r M K ∧ Tame B true w V c.own) := by { rw [hV]; exact ⟨H3.out.1.drewN _, H3.out.2.drewN _⟩ }
      have c5' : V.cell? ⟨c.sb, 5, none⟩ = some (.slice (some ⟨g, 0, none⟩) N cap) := by { rw [hV]; exact c5 }
      rw [← hV]
      clear hV H3 c5 c3
      obtain ⟨cur, ao, m, k, hBV, cj', hIV, hmK⟩ := H5.out.1.w5' (by rw [← HNn.out]; exact c5') HLj.out
      have HBV := Hid.mk'' hBV
      have fj' := hBV.frozen
      have HIV := Hid.mk'' hIV
      have HmK := Hid.mk'' hmK
      have hgs : ¬ g = c.sb := by { obtain ⟨wv, h1, _⟩ := H5.out.1.sb; intro e; exact Blk.notT h1 (T' := 66) (by decide) _ (by rw [← e]; exact HBV.out) }
      have hm9 : m ≤ 900000 := by omega
      have cja : (V.alloc (.cells #[.int .i64 a, .int .i64 d] 76)).cell? ⟨g, j, none⟩ = some (.slice ao m k) := (hBV.alloc _).cell j |>.trans ((hBV.cell j).symm.trans cj')
      clear hBV hIV hmK
      refine wp_region_held_drew (S := fun W => W.cell? ⟨c.sb, 5, none⟩ = some (.slice (some ⟨g, 0, none⟩) N cap)) (by kernel_rfl) (by exact c5') (fun hHeld => ?_)
      refine wpAnyH_take (i := 0) (oi := { dst := some 69, op := .move (.tmp 0), type := 44, pos := _, after := #[], guard := none }) (v := .pointer (some ⟨c.sb, 0, none⟩)) rfl (by kernel_rfl) (by kernel_rfl) (by kernel_rfl) (fun _ _ _ h => h) (Or.inl ⟨by rfl, fun W hSW => by go_simp⟩) (by assumption) ?_
      try simp only [Act.put, List.setIfInBounds_toArray, List.set_cons_zero, List.set_cons_succ]
      refine wpAnyH_take (i := 1) (oi := { dst := some 70, op := .nilCheck (.tmp 69), type := 0, pos := _, after := #[{ on := 0, ground := .data }], guard := none }) (v := .pointer (some ⟨c.sb, 0, none⟩)) rfl (by kernel_rfl) (by kernel_rfl) (by kernel_rfl) (fun _ _ _ h => h) (Or.inl ⟨by rfl, fun W hSW => by go_simp⟩) (by assumption) ?_
      try simp only [Act.put, List.setIfInBounds_toArray, List.set_cons_zero, List.set_cons_succ]
      refine wpAnyH_take (i := 2) (oi := { dst := some 71, op := .fieldAddr 70 (.tmp 70) 5, type := 0, pos := _, after := #[{ on := 1, ground := .data }], guard := none }) (v := .pointer (some ⟨c.sb, 5, none⟩)) rfl (by kernel_rfl) (by kernel_rfl) (by kernel_rfl) (fun _ _ _ h => h) (Or.inl ⟨by rfl, fun W hSW => by go_simp⟩) (by assumption) ?_
      try simp only [Act.put, List.setIfInBounds_toArray, List.set_cons_zero, List.set_cons_succ]
      refine wpAnyH_take (i := 3) (oi := { dst := some 72, op := .load 64 (.tmp 71), type := 64, pos := _, after := #[{ on := 2, ground := .data }], guard := none }) (v := .slice (some ⟨g, 0, none⟩) N cap) rfl (by kernel_rfl) (by kernel_rfl) (by kernel_rfl) (fun _ _ _ h => h) (Or.inl ⟨by rfl, fun W hSW => by have hc2 : W.cell? ⟨c.sb, 5, none⟩ = some (.slice (some ⟨g, 0, none⟩) N cap) := hSW; go_simp⟩) (by assumption) ?_
      try simp only [Act.put, List.setIfInBounds_toArray, List.set_cons_zero, List.set_cons_succ]
      refine wpAnyH_take (i := 4) (oi := { dst := some 73, op := .move (.tmp 10), type := 3, pos := _, after := #[], guard := none }) (v := .int .i64 (j : Int)) rfl (by kernel_rfl) (by kernel_rfl) (by kernel_rfl) (fun _ _ _ h => h) (Or.inl ⟨by rfl, fun W hSW => by go_simp⟩) (by assumption) ?_
      try simp only [Act.put, List.setIfInBounds_toArray, List.set_cons_zero, List.set_cons_succ]
      refine wpAnyH_take (i := 5) (oi := { dst := some 74, op := .move (.tmp 0), type := 44, pos := _, after := #[], guard := none }) (v := .pointer (some ⟨c.sb, 0, none⟩)) rfl (by kernel_rfl) (by kernel_rfl) (by kernel_rfl) (fun _ _ _ h => h) (Or.inl ⟨by rfl, fun W hSW => by go_simp⟩) (by assumption) ?_
      try simp only [Act.put, List.setIfInBounds_toArray, List.set_cons_zero, List.set_cons_succ]
      refine wpAnyH_take (i := 6) (oi := { dst := some 75, op := .nilCheck (.tmp 74), type := 0, pos := _, after := #[{ on := 5, ground := .data }], guard := none }) (v := .pointer (some ⟨c.sb, 0, none⟩)) rfl (by kernel_rfl) (by kernel_rfl) (by kernel_rfl) (fun _ _ _ h => h) (Or.inl ⟨by rfl, fun W hSW => by go_simp⟩) (by assumption) ?_
      try simp only [Act.put, List.setIfInBounds_toArray, List.set_cons_zero, List.set_cons_succ]
      refine wpAnyH_take (i := 7) (oi := { dst := some 76, op := .fieldAddr 70 (.tmp 75) 5, type := 0, pos := _, after := #[{ on := 6, ground := .data }], guard := none }) (v := .pointer (some ⟨c.sb, 5, none⟩)) rfl (by kernel_rfl) (by kernel_rfl) (by kernel_rfl) (fun _ _ _ h => h) (Or.inl ⟨by rfl, fun W hSW => by go_simp⟩) (by assumption) ?_
      try simp only [Act.put, List.setIfInBounds_toArray, List.set_cons_zero, List.set_cons_succ]
      refine wpAnyH_take (i := 8) (oi := { dst := some 77, op := .load 64 (.tmp 76), type := 64, pos := _, after := #[{ on := 7, ground := .data }], guard := none }) (v := .slice (some ⟨g, 0, none⟩) N cap) rfl (by kernel_rfl) (by kernel_rfl) (by kernel_rfl) (fun _ _ _ h => h) (Or.inl ⟨by rfl, fun W hSW => by have hc2 : W.cell? ⟨c.sb, 5, none⟩ = some (.slice (some ⟨g, 0, none⟩) N cap) := hSW; go_simp⟩) (by assumption) ?_
      try simp only [Act.put, List.setIfInBounds_toArray, List.set_cons_zero, List.set_cons_succ]
      refine wpAnyH_take (i := 9) (oi := { dst := some 78, op := .move (.tmp 10), type := 3, pos := _, after := #[], guard := none }) (v := .int .i64 (j : Int)) rfl (by kernel_rfl) (by kernel_rfl) (by kernel_rfl) (fun _ _ _ h => h) (Or.inl ⟨by rfl, fun W hSW => by go_simp⟩) (by assumption) ?_
      try simp only [Act.put, List.setIfInBounds_toArray, List.set_cons_zero, List.set_cons_succ]
      refine wpAnyH_take (i := 10) (oi := { dst := some 79, op := .indexAddr 64 (.tmp 77) (.tmp 78), type := 0, pos := _, after := #[{ on := 8, ground := .data }, { on := 9, ground := .data }], guard := none }) (v := .pointer (some ⟨g, j, none⟩)) rfl (by kernel_rfl) (by kernel_rfl) (by kernel_rfl) (fun _ _ _ h => h) (Or.inl ⟨by rfl, fun W hSW => by go_simp⟩) (by assumption) ?_
      try simp only [Act.put, List.setIfInBounds_toArray, List.set_cons_zero, List.set_cons_succ]
      refine wpAnyH_take (i := 12) (oi := { dst := some 81, op := .move (.tmp 1), type := 2, pos := _, after := #[], guard := none }) (v := .int .i64 a) rfl (by kernel_rfl) (by kernel_rfl) (by kernel_rfl) (fun _ _ _ h => h) (Or.inl ⟨by rfl, fun W hSW => by go_simp⟩) (by assumption) ?_
      try simp only [Act.put, List.setIfInBounds_toArray, List.set_cons_zero, List.set_cons_succ]
      refine wpAnyH_take (i := 13) (oi := { dst := some 82, op := .move (.tmp 4), type := 3, pos := _, after := #[], guard := none }) (v := .int .i64 d) rfl (by kernel_rfl) (by kernel_rfl) (by kernel_rfl) (fun _ _ _ h => h) (Or.inl ⟨by rfl, fun W hSW => by go_simp⟩) (by assumption) ?_
      try simp only [Act.put, List.setIfInBounds_toArray, List.set_cons_zero, List.set_cons_succ]
      refine wpAnyH_take (i := 14) (oi := { dst := some 83, op := .build 76 #[(0, .tmp 81), (1, .tmp 82)], type := 76, pos := _, after := #[{ on := 12, ground := .data }, { on := 13, ground := .data }], guard := none }) (v := .agg #[.int .i64 a, .int .i64 d]) rfl (by kernel_rfl) (by kernel_rfl) (by kernel_rfl) (fun _ _ _ h => h) (Or.inl ⟨by rfl, fun W hSW => by go_simp⟩) (by assumption) ?_
      try simp only [Act.put, List.setIfInBounds_toArray, List.set_cons_zero, List.set_cons_succ]
      refine wpAnyH_ready (rs := [11, 15]) (by kernel_rfl) (by simp) ?_
      refine (AllReadyH.cons (o := { dst := some 80, op := .load 66 (.tmp 79), type := 66, pos := _, after := #[{ on := 10, ground := .data }], guard := none }) rfl (fun K hK => ?_) (AllReadyH.cons (o := { dst := some 84, op := .buildSlice 66 1 #[(0, .tmp 83)], type := 66, pos := _, after := #[{ on := 14, ground := .data }], guard := none }) rfl (fun K hK => ?_) AllReadyH.nil))
      · go_simp
        refine hK.out _ _ (by exact c5') (fun hHeld => ?_)
        clear hK K
        try simp only [Act.put, List.setIfInBounds_toArray, List.set_cons_zero, List.set_cons_succ]
        refine wpAnyH_ready (rs := [15]) (by kernel_rfl) (by simp) ?_
        refine (AllReadyH.cons (o := { dst := some 84, op := .buildSlice 66 1 #[(0, .tmp 83)], type := 66, pos := _, after := #[{ on := 14, ground := .data }], guard := none }) rfl (fun K hK => ?_) AllReadyH.nil)
        go_simp
        refine hK.out _ _ (by go_keep) (fun hHeld => ?_)
        clear hK K
        try simp only [Act.put, List.setIfInBounds_toArray, List.set_cons_zero, List.set_cons_succ]
        refine wpAnyH_ready (rs := [16]) (by kernel_rfl) (by simp) ?_
        refine (AllReadyH.cons (o := { dst := some 85, op := .call { callee := .builtin .append, args := #[.tmp 80, .tmp 84], argTypes := #[66, 66] }, type := 66, pos := _, after := #[{ on := 11, ground := .data }, { on := 15, ground := .data }], guard := none }) rfl (fun K hK => ?_) AllReadyH.nil)
        refine step_env (w0 := V.drew) (by rfl) (.tmp 80) (.tmp 84) (by rfl) (by rfl) (by rfl) (by rfl) (by exact HIV) hm9 (by exact HBV) (by exact Hid.mk'' H5.out.1.drew) (by exact c5') (by exact cj') ?_
        intro ao1 k1 w2 HI1 H6 HT1 g0 d5 dj
        refine hK.out _ _ d5 (fun hHeld => ?_)
        clear hK K
        try simp only [Act.put, List.setIfInBounds_toArray, List.set_cons_zero, List.set_cons_succ]
        refine wpAnyH_take (i := 17) (oi := { dst := some 86, op := .indexAddr 64 (.tmp 72) (.tmp 73), type := 0, pos := _, after := #[{ on := 3, ground := .data }, { on := 4, ground := .data }, { on := 0, ground := .phase }, { on := 1, ground := .phase }, { on := 2, ground := .phase }, { on := 3, ground := .phase }, { on := 4, ground := .phase }, { on := 5, ground := .phase }, { on := 6, ground := .phase }, { on := 7, ground := .phase }, { on := 8, ground := .phase }, { on := 9, ground := .phase }, { on := 10, ground := .phase }, { on := 11, ground := .phase }, { on := 12, ground := .phase }, { on := 13, ground := .phase }, { on := 14, ground := .phase }, { on := 15, ground := .phase }, { on := 16, ground := .phase }], guard := none }) (v := .pointer (some ⟨g, j, none⟩)) rfl (by kernel_rfl) (by kernel_rfl) (by kernel_rfl) (fun _ _ _ h => h) (Or.inl ⟨by rfl, fun W hSW => by go_simp⟩) (by assumption) ?_
        try simp only [Act.put, List.setIfInBounds_toArray, List.set_cons_zero, List.set_cons_succ]
        refine wpAnyH_ready (rs := [18]) (by kernel_rfl) (by simp) ?_
        refine (AllReadyH.cons (o := { dst := none, op := .store 66 (.tmp 86) (.tmp 85), type := 0, pos := _, after := #[{ on := 17, ground := .data }, { on := 16, ground := .data }, { on := 16, ground := .chain }, { on := 0, ground := .phase }, { on := 1, ground := .phase }, { on := 2, ground := .phase }, { on := 3, ground := .phase }, { on := 4, ground := .phase }, { on := 5, ground := .phase }, { on := 6, ground := .phase }, { on := 7, ground := .phase }, { on := 8, ground := .phase }, { on := 9, ground := .phase }, { on := 10, ground := .phase }, { on := 11, ground := .phase }, { on := 12, ground := .phase }, { on := 13, ground := .phase }, { on := 14, ground := .phase }, { on := 15, ground := .phase }, { on := 16, ground := .phase }], guard := none }) rfl (fun K hK => ?_) AllReadyH.nil)
        go_simp
        have e5 : (w2.setCell ⟨g, j, none⟩ (.slice ao1 (m + 1) k1)).cell? ⟨c.sb, 5, none⟩ = some (.slice (some ⟨g, 0, none⟩) N cap) := by { rw [World.cell?_setCell_far _ _ _ _ hgs]; exact d5 }
        refine hK.out _ _ e5 (fun hHeld => ?_)
        clear hK K
        try simp only [Act.put, List.setIfInBounds_toArray, List.set_cons_zero, List.set_cons_succ]
        refine wpAnyH_done (by kernel_rfl) ?_ _
        go_wp2_with fail
        refine bodyPost_ret (v := .tuple #[]) (by simp [results, Tryf.results15, go_sem]) rfl ?_
        have k := H6.out.put (by rw [← HNn.out]; exact d5) j HLj.out _ (m + 1) HI1.out (by have := HmK.out; omega) (Nat.le_succ K)
        exact ⟨rfl, k.1, (H5.out.2.trans ((((Tame.refl false V (fun _ => False)).drew.trans HT1.out).up true).mono fun _ _ q => q.elim)).trans k.2⟩
      · go_simp
        refine hK.out _ _ (by go_keep) (fun hHeld => ?_)
        clear hK K
        try simp only [Act.put, List.setIfInBounds_toArray, List.set_cons_zero, List.set_cons_succ]
        refine wpAnyH_ready (rs := [11]) (by kernel_rfl) (by simp) ?_
        refine (AllReadyH.cons (o := { dst := some 80, op := .load 66 (.tmp 79), type := 66, pos := _, after := #[{ on := 10, ground := .data }], guard := none }) rfl (fun K hK => ?_) AllReadyH.nil)
        go_simp
        refine hK.out _ _ (by exact hHeld) (fun hHeld => ?_)
        clear hK K
        try simp only [Act.put, List.setIfInBounds_toArray, List.set_cons_zero, List.set_cons_succ]
        refine wpAnyH_ready (rs := [16]) (by kernel_rfl) (by simp) ?_
        refine (AllReadyH.cons (o := { dst := some 85, op := .call { callee := .builtin .append, args := #[.tmp 80, .tmp 84], argTypes := #[66, 66] }, type := 66, pos := _, after := #[{ on := 11, ground := .data }, { on := 15, ground := .data }], guard := none }) rfl (fun K hK => ?_) AllReadyH.nil)
        refine step_env (w0 := V.drew) (by rfl) (.tmp 80) (.tmp 84) (by rfl) (by rfl) (by rfl) (by rfl) (by exact HIV) hm9 (by exact HBV) (by exact Hid.mk'' H5.out.1.drew) (by exact c5') (by exact cj') ?_
        intro ao1 k1 w2 HI1 H6 HT1 g0 d5 dj
        refine hK.out _ _ d5 (fun hHeld => ?_)
        clear hK K
        try simp only [Act.put, List.setIfInBounds_toArray, List.set_cons_zero, List.set_cons_succ]
        refine wpAnyH_take (i := 17) (oi := { dst := some 86, op := .indexAddr 64 (.tmp 72) (.tmp 73), type := 0, pos := _, after := #[{ on := 3, ground := .data }, { on := 4, ground := .data }, { on := 0, ground := .phase }, { on := 1, ground := .phase }, { on := 2, ground := .phase }, { on := 3, ground := .phase }, { on := 4, ground := .phase }, { on := 5, ground := .phase }, { on := 6, ground := .phase }, { on := 7, ground := .phase }, { on := 8, ground := .phase }, { on := 9, ground := .phase }, { on := 10, ground := .phase }, { on := 11, ground := .phase }, { on := 12, ground := .phase }, { on := 13, ground := .phase }, { on := 14, ground := .phase }, { on := 15, ground := .phase }, { on := 16, ground := .phase }], guard := none }) (v := .pointer (some ⟨g, j, none⟩)) rfl (by kernel_rfl) (by kernel_rfl) (by kernel_rfl) (fun _ _ _ h => h) (Or.inl ⟨by rfl, fun W hSW => by go_simp⟩) (by assumption) ?_
        try simp only [Act.put, List.setIfInBounds_toArray, List.set_cons_zero, List.set_cons_succ]
        refine wpAnyH_ready (rs := [18]) (by kernel_rfl) (by simp) ?_
        refine (AllReadyH.cons (o := { dst := none, op := .store 66 (.tmp 86) (.tmp 85), type := 0, pos := _, after := #[{ on := 17, ground := .data }, { on := 16, ground := .data }, { on := 16, ground := .chain }, { on := 0, ground := .phase }, { on := 1, ground := .phase }, { on := 2, ground := .phase }, { on := 3, ground := .phase }, { on := 4, ground := .phase }, { on := 5, ground := .phase }, { on := 6, ground := .phase }, { on := 7, ground := .phase }, { on := 8, ground := .phase }, { on := 9, ground := .phase }, { on := 10, ground := .phase }, { on := 11, ground := .phase }, { on := 12, ground := .phase }, { on := 13, ground := .phase }, { on := 14, ground := .phase }, { on := 15, ground := .phase }, { on := 16, ground := .phase }], guard := none }) rfl (fun K hK => ?_) AllReadyH.nil)
        go_simp
        have e5 : (w2.setCell ⟨g, j, none⟩ (.slice ao1 (m + 1) k1)).cell? ⟨c.sb, 5, none⟩ = some (.slice (some ⟨g, 0, none⟩) N cap) := by { rw [World.cell?_setCell_far _ _ _ _ hgs]; exact d5 }
        refine hK.out _ _ e5 (fun hHeld => ?_)
        clear hK K
        try simp only [Act.put, List.setIfInBounds_toArray, List.set_cons_zero, List.set_cons_succ]
        refine wpAnyH_done (by kernel_rfl) ?_ _
        go_wp2_with fail
        refine bodyPost_ret (v := .tuple #[]) (by simp [results, Tryf.results15, go_sem]) rfl ?_
        have k := H6.out.put (by rw [← HNn.out]; exact d5) j HLj.out _ (m + 1) HI1.out (by have := HmK.out; omega) (Nat.le_succ K)
        exact ⟨rfl, k.1, (H5.out.2.trans ((((Tame.refl false V (fun _ => False)).drew.trans HT1.out).up true).mono fun _ _ q => q.elim)).trans k.2⟩)
end Go.Proofs.Qxb6003861aFmt
