import Derived.Test.Qxb6003861aFmtAdQ
namespace Go.Proofs.Qxb6003861aFmt
open Go.RowKit
set_option linter.unusedVariables false
set_option linter.unusedSimpArgs false
variable {B : Nat}

set_option maxRecDepth 100000 in
set_option maxHeartbeats 4000000 in
theorem end_none (w : World) (c : SC) (s r : List Int) (M K rb tb : Nat) (h : ST B w c s r M K) (hc5 : w.cell? ⟨c.sb, 5, none⟩ = some (.slice none 0 0)) :
    Calls Tryf.prog 20 #[.pointer (some ⟨c.sb, 0, none⟩), .pointer (some ⟨rb, 0, none⟩)] w (Ended B w c s r M K tb) := by
  have HE : Hid (ST B (w.alloc (.cells #[.int .i64 0, .int .i64 0] 28)) c s r M 0 ∧ Tame B true w (w.alloc (.cells #[.int .i64 0, .int .i64 0] 28)) (fun k => c.own k ∨ k = tb) ∧ Blk (w.alloc (.cells #[.int .i64 0, .int .i64 0] 28)) w.heap.size 28 #[.int .i64 0, .int .i64 0]) := ⟨(h.zero hc5).alloc _, (Tame.refl _ _ _).alloc _, Blk.new w 28 _⟩
  have Hc5 : Hid ((w.alloc (.cells #[.int .i64 0, .int .i64 0] 28)).cell? ⟨c.sb, 5, none⟩ = some (.slice none 0 0)) := by
    obtain ⟨wv, h1, _⟩ := h.sb
    have e1 : w.cell? ⟨c.sb, 5, none⟩ = some wv := Blk.cell h1 5
    rw [hc5] at e1
    cases e1
    exact Blk.cell (Blk.alloc h1 _) 5
  obtain ⟨n, hn⟩ : ∃ n, n = c.ids.length := ⟨_, rfl⟩
  have HNn := Hid.mk'' hn
  obtain ⟨ca, hca⟩ : ∃ ca, ca = c.cao := ⟨_, rfl⟩
  have Hca := Hid.mk'' hca
  clear hca
  have h64 : n ≤ 64 := by rw [hn]; exact h.le
  have hm : ∀ w, (method 214 40 (.pointer (some ⟨c.nb, 0, none⟩)) "IDs").run Tryf.prog w = .ok (51, .pointer (some ⟨c.nb, 0, none⟩)) w := fun _ => by kernel_rfl
  have i0 : ¬ (n : Int) < 0 := by omega
  clear h hc5 hn
  go_enter Tryf.func20, Tryf.ntmps20
  go_upto_region 1 with fail
  obtain ⟨W0, hW0⟩ : ∃ W0, W0 = w.alloc (.cells #[.int .i64 0, .int .i64 0] 28) := ⟨_, rfl⟩
  obtain ⟨eb, heb⟩ : ∃ eb, eb = w.heap.size := ⟨_, rfl⟩
  rw [← hW0] at HE Hc5 ⊢
  rw [← heb] at HE ⊢
  have Heb := Hid.mk'' heb
  clear hW0 heb
  have c2 := HE.out.1.c2
  have c5 := Hc5.out
  clear Hc5
  go_wp2_with (first | (refine (ids_any _ c.nb c.cao c.ccap c.ids HE.out.1.nd).mono ?_; rintro e w1 ⟨rfl, hw1⟩; subst hw1; rw [← HNn.out, ← Hca.out]) | fail)
  refine wp_loop_rounds 1 ?_
  rw [rounds_succ]
  obtain ⟨r', hr'⟩ : ∃ r', r' = r := ⟨_, rfl⟩
  have HF0 : Hid (ST B w1 c s r' M 0 ∧ Tame B true w w1 (fun k => c.own k ∨ k = tb) ∧ Blk w1 eb 28 #[.int .i64 0, .int .i64 0] ∧ RR c.limit r r' n) := by
    rw [hr']
    refine ⟨HE.out.1, HE.out.2.1, HE.out.2.2, rfl, fun k _ => ?_, fun _ _ => rfl⟩
    exact Int.le_max_right _ _
  clear HE c2 c5 hr'
  go_upto_region 21 with fail
  obtain ⟨W7, hW7⟩ : ∃ W7, W7 = w1.alloc (.cells #[.int .i64 0, .int .i64 0] 28) := ⟨_, rfl⟩
  obtain ⟨kb, hkb⟩ : ∃ kb, kb = w1.heap.size := ⟨_, rfl⟩
  have HZ : Hid (EZ B w W7 c s r' (M) eb kb 0 tb) := by
    rw [hW7]
    refine ⟨HF0.out.1.alloc _, HF0.out.2.1.alloc _, ?_, ⟨?_, ?_⟩, HF0.out.2.2.1.alloc _, Blk.new' hkb.symm 28 _⟩
    · have h1 := HF0.out.2.2.1.lt
      omega
    · have h1 := HF0.out.2.1.size
      omega
    · have h1 := Heb.out
      omega
  rw [← hW7, ← hkb]
  have HRf : Hid (RR c.limit r r' n) := HF0.out.2.2.2
  clear hW7 hkb HF0
  obtain ⟨wvx, hsbx, _⟩ := HZ.out.st.sb
  have c3 : W7.cell? ⟨c.sb, 3, none⟩ = some (.slice c.so n c.sc) := by { rw [HNn.out]; exact Blk.cell hsbx 3 }
  clear hsbx
  go_wp2_with fail
  go_loopw [109] (fun a w8 => ∃ (i : Nat), i ≤ n ∧ a = .int .i64 i ∧ Hid (EZ B w w8 c s r' (M) eb kb i tb)) (fun a _ => n - (intOf a).toNat)
  case atStart => exact ⟨0, Nat.zero_le _, rfl, HZ.out⟩
  case round =>
    clear HZ c3
    obtain ⟨i, hi, rfl, HY⟩ := hrel
    by_cases hlt : i < n
    · have HL : Hid (i < c.ids.length) := by rw [← HNn.out]; exact hlt
      have i1 : (i : Int) < (n : Int) := by omega
      obtain ⟨gs, _, _, ys, c3, fs⟩ := HY.out.st.s3 HL.out
      obtain ⟨v1, hv1⟩ : ∃ v1, v1 = s.getD i 0 := ⟨_, rfl⟩
      obtain ⟨a1, ha1⟩ : ∃ a1, a1 = mxs s i := ⟨_, rfl⟩
      obtain ⟨a2, ha2⟩ : ∃ a2, a2 = mxs r' i := ⟨_, rfl⟩
      obtain ⟨v2, hv2⟩ : ∃ v2, v2 = r'.getD i 0 := ⟨_, rfl⟩
      obtain ⟨y1, hy1⟩ : ∃ y1, (if a1 < v1 then v1 else a1) = y1 := ⟨_, rfl⟩
      obtain ⟨y2, hy2⟩ : ∃ y2, (if a2 < v2 then v2 else a2) = y2 := ⟨_, rfl⟩
      have k0 : wr.cell? ⟨kb, 0, none⟩ = some (.int .i64 a1) := by rw [ha1]; exact HY.out.kb.cell 0
      have k1 : wr.cell? ⟨kb, 1, none⟩ = some (.int .i64 a2) := by rw [ha2]; exact HY.out.kb.cell 1
      have kf := HY.out.kb.frozen
      have hf := HY.out.fst y1 y2
      have HS1 : Hid (ST B ((wr.setCell ⟨kb, 0, none⟩ (.int .i64 y1)).drew) c s r' (M) 0) := hf.1
      have HK1 : Hid (Blk ((wr.setCell ⟨kb, 0, none⟩ (.int .i64 y1)).drew) kb 28 #[.int .i64 y1, .int .i64 a2]) := by rw [ha2]; exact hf.2.1
      have HZ2 : Hid (EZ B w ((((wr.setCell ⟨kb, 0, none⟩ (.int .i64 y1)).drew).setCell ⟨kb, 1, none⟩ (.int .i64 y2)).drew) c s r' (M) eb kb (i + 1) tb) := by
        refine ⟨hf.2.2.1, hf.2.2.2.1, HY.out.ne, HY.out.new, hf.2.2.2.2.1, ?_⟩
        have e1 : mxs s (i + 1) = y1 := by rw [← hy1, ha1, hv1]; rfl
        have e2 : mxs r' (i + 1) = y2 := by rw [← hy2, ha2, hv2]; rfl
        rw [e1, e2]
        exact hf.2.2.2.2.2
      rw [← HNn.out] at c3
      rw [← hv1] at ys
      have HV2 := Hid.mk'' hv2
      have Hy1 := Hid.mk'' hy1
      have Hy2 := Hid.mk'' hy2
      clear hf hv1 ha1 ha2 hv2 hy1 hy2 HY
      go_upto_region 24 with fail
      go_region
      rw [Hy1.out]
      obtain ⟨W8, hW8⟩ : ∃ W8, W8 = (wr.setCell ⟨kb, 0, none⟩ (.int .i64 y1)).drew := ⟨_, rfl⟩
      rw [← hW8] at HS1 HK1 HZ2 ⊢
      clear hW8 k0 k1 kf c3 ys fs
      obtain ⟨gr, _, _, ys, c4, fs⟩ := HS1.out.s4 HL.out
      rw [← HNn.out] at c4
      rw [← HV2.out] at ys
      have k1 : W8.cell? ⟨kb, 1, none⟩ = some (.int .i64 a2) := HK1.out.cell 1
      have kf := HK1.out.frozen
      go_upto_region 25 with fail
      go_region
      rw [Hy2.out]
      go_wp2_with fail
      go_roundw
      case rel => exact ⟨i + 1, by omega, by go_num, HZ2.out⟩
      case measure => simp [intOf]; omega
    · have i1 : ¬ (i : Int) < (n : Int) := by omega
      obtain rfl : n = i := by omega
      obtain ⟨a1, ha1⟩ : ∃ a1, a1 = mxs s n := ⟨_, rfl⟩
      obtain ⟨a2, ha2⟩ : ∃ a2, a2 = mxs r' n := ⟨_, rfl⟩
      have k0 : wr.cell? ⟨kb, 0, none⟩ = some (.int .i64 a1) := by rw [ha1]; exact HY.out.kb.cell 0
      have k1 : wr.cell? ⟨kb, 1, none⟩ = some (.int .i64 a2) := by rw [ha2]; exact HY.out.kb.cell 1
      have z0 : wr.cell? ⟨eb, 0, none⟩ = some (.int .i64 0) := HY.out.e0.cell 0
      have z1 : wr.cell? ⟨eb, 1, none⟩ = some (.int .i64 0) := HY.out.e0.cell 1
      have zf := HY.out.e0.frozen
      have HA1 := Hid.mk'' ha1
      have HA2 := Hid.mk'' ha2
      clear ha1 ha2
      go_wp2_with fail
      have kk : Kept wr ((wr.setCell ⟨eb, 0, none⟩ (.int .i64 a1)).setCell ⟨eb, 1, none⟩ (.int .i64 a2)) (fun k => k = eb) := (Kept.one _ _ _ _).set (.inl rfl) _
      have hBe : Blk ((wr.setCell ⟨eb, 0, none⟩ (.int .i64 a1)).setCell ⟨eb, 1, none⟩ (.int .i64 a2)) eb 28 #[.int .i64 a1, .int .i64 a2] := (HY.out.e0.set 0 _).set 1 _
      have x0 := hBe.cell 0
      have x1 := hBe.cell 1
      refine bodyPost_ret (v := .agg #[.int .i64 a1, .int .i64 a2]) ?_ rfl ?_
      · simp [results, Tryf.results20, go_sem, x0, x1]
      · refine ⟨r', by rw [HA1.out, HA2.out, HNn.out], ?_, HY.out.fr.next (Tame.ofKept kk) (fun j hj q => by subst q; exact absurd HY.out.new.2 (by omega)), by rw [← HNn.out]; exact HRf.out⟩
        exact (HY.out.st.side HY.out.e0 (by decide) (by decide) (by decide) (by decide) (by decide) (by decide) (by decide) (by decide) (Tame.ofKept kk)).mono (Nat.le_add_right _ _) (Nat.le_refl _)

theorem end_any (w : World) (c : SC) (s r : List Int) (M K rb tb : Nat) (h : ST B w c s r M K) (hR : RP w rb tb) (hK : K ≤ 256) (hM : M ≤ 100000) (hl : InR c.limit) (hr : ∀ k, InR (r.getD k 0)) (hs : ∀ k, k < c.ids.length → InR (c.limit - r.getD k 0)) :
    Calls Tryf.prog 20 #[.pointer (some ⟨c.sb, 0, none⟩), .pointer (some ⟨rb, 0, none⟩)] w (Ended B w c s r M K tb) := by
  rcases h.w5 with h5 | ⟨g, cap, cur, h5, _⟩
  · exact end_none w c s r M K rb tb h h5
  · exact end_some w c s r M K rb tb g cap h hR h5 hK hM hl hr hs
end Go.Proofs.Qxb6003861aFmt
