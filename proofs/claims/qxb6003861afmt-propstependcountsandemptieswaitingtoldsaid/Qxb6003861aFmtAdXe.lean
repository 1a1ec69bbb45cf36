import Derived.Test.Qxb6003861aFmtAdX
namespace Go.Proofs.Qxb6003861aFmt
open Go.RowKit
set_option linter.unusedVariables false
set_option linter.unusedSimpArgs false
variable {B : Nat}

set_option maxRecDepth 100000 in
set_option maxHeartbeats 8000000 in
theorem rest_ok (w : World) (k : RC) (ids tape : List Int) (limit : Int) (ops : List DO) (n q l dc : Nat) (xa : Option Addr) (xn xc : Nat) (wr : World)
    (t0 t2 t3 t4 t5 t6 t7 t9 t11 t20 t21 t22 t23 t24 t25 t26 t27 t28 t29 t30 t31 t32 t33 t34 t35 t36 t37 t38 t39 t40 t41 t42 t43 t44 t45 t46 t47 t48 t49 t50 t51 t52 t53 t54 t55 t56 t57 t58 t59 t60 t61 t62 t63 t64 t65 t66 t67 t68 t69 t70 t71 t72 t73 t74 t75 t76 t77 t78 t79 t80 t81 t82 t83 t84 t85 t86 t87 t88 t89 t90 t91 t92 t93 t94 t95 t96 t97 t98 t99 t100 t101 t102 t103 t104 t105 t106 t107 t108 t109 t110 t111 t112 t113 t114 t115 t116 t117 t118 t119 t120 t121 t122 t123 t124 t125 t126 t127 t128 t129 t130 t131 t132 t133 t134 t135 t136 t137 t138 t139 t140 t141 t142 t143 t144 t145 t146 t147 t148 t149 t150 t151 t152 t153 t154 t155 t156 t157 t158 t159 t160 t161 t162 t163 t164 t165 t166 t167 t168 t169 t170 t171 t172 t173 t174 t175 t176 t177 t178 t179 t180 t181 t182 t183 t184 t185 t186 t187 t188 t189 t190 t191 t192 t193 t194 t195 t196 t197 t198 t199 t200 t201 t202 t203 t204 t205 t206 t207 t208 t209 t210 t211 t212 t213 t214 t215 t216 t217 t218 t219 t220 t221 t222 t223 t224 t225 t226 t227 t228 t229 t230 t231 t232 t233 t234 t235 t236 t237 t238 t239 t240 t241 t242 t243 t244 t245 t246 t247 t248 t249 t250 t251 t252 t253 t254 t255 t256 t257 t258 t259 t260 t261 t262 t263 t264 t265 t266 t267 t268 t269 t270 t271 t272 t273 t274 t275 t276 t277 t278 t279 t280 t281 t282 t283 t284 t285 t286 t287 t288 t289 t290 t291 t292 t293 t294 t295 t296 t297 t298 t299 t300 t301 t302 t303 t304 t305 t306 t307 t308 t309 t310 t311 t312 t313 t314 t315 t316 t317 t318 t319 t320 t321 t322 t323 t324 t325 t326 t327 t328 t329 t330 t331 t332 t333 t334 t335 t336 t337 t338 t339 t340 t341 t342 t343 t344 t345 t346 t347 t348 t349 t350 t351 t352 t353 t354 t355 t356 t357 t358 t359 t360 t361 t362 t363 t364 t365 t366 t367 t368 t369 t370 t371 t372 t373 t374 t375 t376 t377 t378 t379 t380 t381 t382 t383 t384 t385 : Value)
    (hn64 : n ≤ 64) (ho256 : q ≤ 256) (ht64 : l ≤ 64) (HNn : Hid (n = ids.length)) (HNm : Hid (q = ops.length)) (HNl : Hid (l = tape.length)) (HIds : Hid (k.c.ids = ids ∧ k.c.limit = limit ∧ k.tp = tape)) (HKf : Hid (k.f3 = .int .i64 0 ∧ k.f4 = .int .i64 0 ∧ k.f5 = .slice none 0 0 ∧ k.f6 = .slice none 0 0)) (Hd : Hid (∀ x ∈ tape, Drawn x)) (Hl : Hid (InR limit)) (HP : Hid (Prem ids limit ops))
    (HR : Hid (RQ B w wr k ids ops q (.slice xa xn xc))) :
    Code.wp Tryf.prog (rest7 Tryf.f7) (bodyPost Tryf.prog Tryf.f7 (Ran w ids limit ops)) { tmps := #[t0, .int .i64 limit, t2, t3, t4, t5, t6, t7, .pointer (some ⟨k.e0, 0, none⟩), t9, .slice k.ta l dc, t11, .int .i64 (n : Int), .pointer (some ⟨k.c.lb, 0, none⟩), .pointer (some ⟨k.c.sb, 0, none⟩), .slice xa xn xc, .slice (some ⟨k.msb, 0, none⟩) n n, .slice (some ⟨k.mrb, 0, none⟩) n n, .slice (some ⟨k.wtb, 0, none⟩) n n, .pointer (some ⟨k.rsb, 0, none⟩), t20, t21, t22, t23, t24, t25, t26, t27, t28, t29, t30, t31, t32, t33, t34, t35, t36, t37, t38, t39, t40, t41, t42, t43, t44, t45, t46, t47, t48, t49, t50, t51, t52, t53, t54, t55, t56, t57, t58, t59, t60, t61, t62, t63, t64, t65, t66, t67, t68, t69, t70, t71, t72, t73, t74, t75, t76, t77, t78, t79, t80, t81, t82, t83, t84, t85, t86, t87, t88, t89, t90, t91, t92, t93, t94, t95, t96, t97, t98, t99, t100, t101, t102, t103, t104, t105, t106, t107, t108, t109, t110, t111, t112, t113, t114, t115, t116, t117, t118, t119, t120, t121, t122, t123, t124, t125, t126, t127, t128, t129, t130, t131, t132, t133, t134, t135, t136, t137, t138, t139, t140, t141, t142, t143, t144, t145, t146, t147, t148, t149, t150, t151, t152, t153, t154, t155, t156, t157, t158, t159, t160, t161, t162, t163, t164, t165, t166, t167, t168, t169, t170, t171, t172, t173, t174, t175, t176, t177, t178, t179, t180, t181, t182, t183, t184, t185, t186, t187, t188, t189, t190, t191, t192, t193, t194, t195, t196, t197, t198, t199, t200, t201, t202, t203, t204, t205, t206, t207, t208, t209, t210, t211, t212, t213, t214, t215, t216, t217, t218, t219, t220, t221, t222, t223, t224, t225, t226, t227, t228, t229, t230, t231, t232, t233, t234, t235, t236, t237, t238, t239, t240, t241, t242, t243, t244, t245, t246, t247, t248, t249, t250, t251, t252, t253, t254, t255, t256, t257, t258, t259, t260, t261, t262, t263, t264, t265, t266, t267, t268, t269, t270, t271, t272, t273, t274, t275, t276, t277, t278, t279, t280, t281, t282, t283, t284, t285, t286, t287, t288, t289, t290, t291, t292, t293, t294, t295, t296, t297, t298, t299, t300, t301, t302, t303, t304, t305, t306, t307, t308, t309, t310, t311, t312, t313, t314, t315, t316, t317, t318, t319, t320, t321, t322, t323, t324, t325, t326, t327, t328, t329, t330, t331, t332, t333, t334, t335, t336, t337, t338, t339, t340, t341, t342, t343, t344, t345, t346, t347, t348, t349, t350, t351, t352, t353, t354, t355, t356, t357, t358, t359, t360, t361, t362, t363, t364, t365, t366, t367, t368, t369, t370, t371, t372, t373, t374, t375, t376, t377, t378, t379, t380, t381, t382, t383, t384, t385], defers := [] } wr := by
  dsimp only [rest7, for7, body7, Tryf.f7, sq1, sq2, bk, lp, Option.getD]
  have hst : stt ids (ops.take q) = stt ids ops := by rw [HNm.out, List.take_length]
  obtain ⟨s, hs⟩ : ∃ s, s = (stt ids ops).1 := ⟨_, rfl⟩
  obtain ⟨r, hr⟩ : ∃ r, r = (stt ids ops).2 := ⟨_, rfl⟩
  have HU : Hid (RU B w wr k s r s r q q (.slice xa xn xc)) := by { have h := HR.out; unfold RQ at h; rw [hst, ← hs, ← hr] at h; exact h }
  have HSR : Hid (s = (stt ids ops).1 ∧ r = (stt ids ops).2) := ⟨hs, hr⟩
  clear hst hs hr HR
  obtain ⟨fp, fq, hfr⟩ := HU.out.rs
  rw [HKf.out.1, HKf.out.2.1, HKf.out.2.2.1, HKf.out.2.2.2] at hfr
  have HF := Hid.mk'' hfr
  clear hfr
  go_upto_region 54 with (first | (at_builtin; go_must (refine wpList_app (t := 29) rfl (.const (.slice none 0 0)) (.tmp 254) rfl _ _ rfl rfl (run_pre HU.out _ n (by rw [HIds.out.1]; exact HNn.out)) ?_); rintro v1 w1 ⟨⟨pa, pc, rfl, h1⟩, h2⟩; have HPR := Hid.mk'' h1; have HU1 := Hid.mk'' (HU.out.quiet h2); have HF1 := Hid.mk'' (HF.out.tame h2 id (hardF _ (by decide) (by decide))); have d6 := HF1.out.cell 6; have f6 := HF1.out.frozen; clear h1 h2) | fail)
  obtain ⟨w2, hw2⟩ : ∃ w2, w2 = w1.setCell ⟨k.rsb, 6, none⟩ (.slice pa n pc) := ⟨_, rfl⟩
  have ht2 : Tame B false w1 w2 (fun j => j = k.rsb) := by { rw [hw2]; exact Tame.ofKept (Kept.one _ _ _ _) }
  have HF2 : Hid (Blk w2 k.rsb 31 #[.bool fp, .bool fq, .bool true, .int .i64 0, .int .i64 0, .slice none 0 0, .slice pa n pc]) := by { rw [hw2]; exact HF1.out.set 6 _ }
  have HU2 : Hid (RU B w w2 (k.fin (.int .i64 0) (.int .i64 0) (.slice none 0 0) (.slice pa n pc)) s r s r q q (.slice xa xn xc)) := HU1.out.fill ht2 HF2.out
  have HPR2 : Hid (PR w2 k pa r) := HPR.out.keep ht2 (fun j e => .inr (by subst e; exact HF1.out.notT (by decide)))
  rw [← hw2]
  clear ht2 hw2 HU HF HU1 HF1 HPR d6 f6
  obtain ⟨y1, hy1⟩ : ∃ y1, y1 = mxs s n := ⟨_, rfl⟩
  have HY1 := Hid.mk'' hy1
  have HG := Hid.mk'' (HU2.out.rng l dc (by { show l = k.tp.length; rw [HIds.out.2.2]; exact HNl.out }) ht64 (by { show ∀ x ∈ k.tp, Drawn x; rw [HIds.out.2.2]; exact Hd.out }))
  have Hend : Hid (Calls Tryf.prog 20 #[.pointer (some ⟨k.c.sb, 0, none⟩), .pointer (some ⟨w2.heap.size + 1, 0, none⟩)] ((w2.alloc (.cells #[.slice k.ta l dc, .int .i64 0] 62)).alloc (.cells #[.iface 60 (.pointer (some ⟨w2.heap.size, 0, none⟩))] 82)) fun e w' => ∃ r' y2, e = .returned (.agg #[.int .i64 y1, .int .i64 y2]) ∧ y2 = mxs r' n ∧ RR limit r r' n ∧ RU B w w' (k.fin (.int .i64 0) (.int .i64 0) (.slice none 0 0) (.slice pa n pc)) s r' s r (q + n * q) q (.slice xa xn xc) ∧ ST B w' k.c s r' (q + n * q) 0 ∧ PR w' k pa r ∧ Blk w' k.rsb 31 #[.bool fp, .bool fq, .bool true, .int .i64 0, .int .i64 0, .slice none 0 0, .slice pa n pc]) := by
    have hU := HU2.out.quiet HG.out.2.2.2
    have hlen : k.c.ids.length = n := by rw [HIds.out.1]; exact HNn.out.symm
    refine (end_any _ k.c s r q q _ w2.heap.size hU.st HG.out.1 (by omega) (by omega) (by rw [HIds.out.2.1]; exact Hl.out) (by rw [HSR.out.2]; exact inR_stt ids ops) (by rw [HIds.out.2.1, HIds.out.1, HSR.out.2]; exact HP.out.2)).mono ?_
    rintro e w' ⟨r', rfl, h1, h2, h3⟩
    rw [hlen] at h1 h3
    rw [HIds.out.2.1] at h3
    refine ⟨r', _, by rw [hlen, ← hy1], rfl, h3, hU.ended HG.out.2.1 HG.out.2.2.1 h1 h2 (by omega), h1, ?_, ?_⟩
    · exact (HPR2.out.keep HG.out.2.2.2 (fun _ q => q.elim)).keep h2 (fun j o => o.elim (fun o => .inl (.inl o)) (fun e => .inr (by subst e; exact HG.out.2.1.notT (by decide))))
    · refine (HF2.out.tame HG.out.2.2.2 id (hardF _ (by decide) (by decide))).tame h2 (fun o => ?_) (hardT _ (by decide) (by decide) (by decide))
      have hb := HF2.out.tame HG.out.2.2.2 id (hardF _ (by decide) (by decide))
      rcases o with o | e
      · exact hU.notOwn (T := 31) (by decide) (by decide) (by decide) _ o _ hb
      · exact hb.notT (T' := 62) (by decide) _ (by rw [e]; exact HG.out.2.1)
  clear hy1
  go_upto_region 55 with (first | (go_at_call 21; refine (new_any _ _ 60 _ rfl).mono ?_; rintro e w9 ⟨rfl, hw9⟩; rw [hw9]; clear hw9 w9) | (go_at_call 20; refine Hend.out.mono ?_; rintro e w3 ⟨r', y2, rfl, g1, g2, g3, g4, g5, g6⟩; have HY2 := Hid.mk'' g1; have HRR := Hid.mk'' g2; have HU3 := Hid.mk'' g3; have HS3 := Hid.mk'' g4; have HP3 := Hid.mk'' g5; have HF3 := Hid.mk'' g6; have d3 : w3.cell? ⟨k.rsb, 3, none⟩ = some (.int .i64 0) := g6.cell 3; have d4 : w3.cell? ⟨k.rsb, 4, none⟩ = some (.int .i64 0) := g6.cell 4; have f3 := g6.frozen; clear g1 g2 g3 g4 g5 g6) | fail)
  clear Hend HG HU2 HPR2 HF2
  obtain ⟨w4, hw4⟩ : ∃ w4, w4 = (w3.setCell ⟨k.rsb, 3, none⟩ (.int .i64 y1)).setCell ⟨k.rsb, 4, none⟩ (.int .i64 y2) := ⟨_, rfl⟩
  obtain ⟨A, hA⟩ : ∃ A, A = q + n * q := ⟨_, rfl⟩
  have hA2 : A ≤ 20000 := by { have h1 : n * q ≤ 64 * 256 := Nat.mul_le_mul hn64 ho256; omega }
  have ht4 : Tame B false w3 w4 (fun j => j = k.rsb) := by { rw [hw4]; exact Tame.ofKept ((Kept.one _ _ _ _).set (.inl rfl) _) }
  have HF4 : Hid (Blk w4 k.rsb 31 #[.bool fp, .bool fq, .bool true, .int .i64 y1, .int .i64 y2, .slice none 0 0, .slice pa n pc]) := by { rw [hw4]; exact (HF3.out.set 3 _).set 4 _ }
  have HU4 : Hid (RU B w w4 (k.fin (.int .i64 y1) (.int .i64 y2) (.slice none 0 0) (.slice pa n pc)) s r' s r A q (.slice xa xn xc)) := by { rw [hA]; exact HU3.out.fill ht4 HF4.out }
  have HS4 : Hid (ST B w4 k.c s r' A 0) := by { rw [hA]; exact HS3.out.side HF3.out (by decide) (by decide) (by decide) (by decide) (by decide) (by decide) (by decide) (by decide) ht4 }
  have HP4 : Hid (PR w4 k pa r) := HP3.out.keep ht4 (fun j e => .inr (by subst e; exact HF3.out.notT (by decide)))
  rw [← hw4]
  clear ht4 hw4 HU3 HF3 HS3 HP3 d3 d4 f3 hA HF4
  have HG := Hid.mk'' (HU4.out.rng l dc (by { show l = k.tp.length; rw [HIds.out.2.2]; exact HNl.out }) ht64 (by { show ∀ x ∈ k.tp, Drawn x; rw [HIds.out.2.2]; exact Hd.out }))
  go_wp2_with (first | (go_at_call 21; refine (new_any _ _ 60 _ rfl).mono ?_; rintro e w9 ⟨rfl, hw9⟩; rw [hw9]; clear hw9 w9) | fail)
  obtain ⟨w5, hw5⟩ : ∃ w5, w5 = ((w4.alloc (.cells #[.slice k.ta l dc, .int .i64 0] 62)).alloc (.cells #[.iface 60 (.pointer (some ⟨w4.heap.size, 0, none⟩))] 82)) := ⟨_, rfl⟩
  obtain ⟨tb, htb⟩ : ∃ tb, tb = w4.heap.size := ⟨_, rfl⟩
  obtain ⟨rb, hrb⟩ : ∃ rb, rb = w4.heap.size + 1 := ⟨_, rfl⟩
  obtain ⟨kf, hkf⟩ : ∃ kf, kf = k.fin (.int .i64 y1) (.int .i64 y2) (.slice none 0 0) (.slice pa n pc) := ⟨_, rfl⟩
  have HR5 : Hid (R2 B w w5 kf s r' s r A q (.slice xa xn xc) rb tb pa r) := by
    rw [hw5, htb, hrb, hkf]
    exact ⟨HU4.out.quiet HG.out.2.2.2, HS4.out.tame HG.out.2.2.2 (fun _ q => q.elim), HG.out.1, HG.out.2.2.1, HP4.out.keep HG.out.2.2.2 (fun _ q => q.elim)⟩
  have e1 : k.c = kf.c := by rw [hkf]; rfl
  have e2 : k.msb = kf.msb := by rw [hkf]; rfl
  have e3 : k.mrb = kf.mrb := by rw [hkf]; rfl
  have e4 : k.wtb = kf.wtb := by rw [hkf]; rfl
  have e5 : k.rsb = kf.rsb := by rw [hkf]; rfl
  have e6 : k.e0 = kf.e0 := by rw [hkf]; rfl
  have HKf2 : Hid (kf.f3 = .int .i64 y1 ∧ kf.f4 = .int .i64 y2 ∧ kf.f5 = .slice none 0 0 ∧ kf.f6 = .slice pa n pc) := by { rw [hkf]; exact ⟨rfl, rfl, rfl, rfl⟩ }
  have HI2 : Hid (kf.c.ids = ids ∧ kf.c.limit = limit) := by { rw [← e1]; exact ⟨HIds.out.1, HIds.out.2.1⟩ }
  rw [← hw5, ← hrb, e1, e2, e3, e4, e5, e6]
  clear hw5 htb hrb hkf e1 e2 e3 e4 e5 e6 HU4 HS4 HP4 HG HKf HIds HNm HNl Hd HP
  go_loopw [15, 34] (fun a b wx => ∃ (i : Nat) (za : Option Addr) (zn zc : Nat) (r2 : List Int), i ≤ n ∧ a = .slice za zn zc ∧ b = .int .i64 i ∧ Hid (R2 B w wx kf s r' s r2 (A + i * 256) q (.slice za zn zc) rb tb pa r)) (fun _ b _ => n - (intOf b).toNat)
  case atStart => exact ⟨0, _, _, _, r, Nat.zero_le _, rfl, rfl, by { rw [Nat.zero_mul]; exact HR5.out }⟩
  case round =>
    clear HR5
    obtain ⟨i, za, zn, zc, r2, hi, rfl, rfl, HR⟩ := hrel
    by_cases hlt : i < n
    · have HL : Hid (i < kf.c.ids.length) := by { rw [HI2.out.1, ← HNn.out]; exact hlt }
      obtain ⟨wa, wm, wk, hwj⟩ := HR.out.ru.wj HL.out
      have HJ := Hid.mk'' hwj
      have cw : wr.cell? ⟨kf.wtb, i, none⟩ = some (.slice wa wm wk) := hwj.cell
      have hwm : wm ≤ q := hwj.2.2
      have i1 : (i : Int) < (n : Int) := by omega
      obtain ⟨z, hz⟩ : ∃ z, z = r2.getD i 0 := ⟨_, rfl⟩
      have qz : wr.cell? ⟨kf.mrb, i, none⟩ = some (.int .i64 z) := by { rw [hz]; exact HR.out.ru.cr (by rw [HR.out.ru.l2.2]; exact HL.out) }
      obtain ⟨D, hD⟩ : ∃ D, D = wrap64 (limit - z) := ⟨_, rfl⟩
      have eD : IntKind.i64.wrap (limit - z) = D := by rw [hD]; exact IntWalk.i64_left _
      have eD' : wrap64 (limit - z) = D := hD.symm
      clear hwj hz hD
      go_upto_region 61 with fail
      obtain ⟨R, hR⟩ : ∃ R : Nat, (if 0 < D then D else 0) = (R : Int) := by
        by_cases h0 : 0 < D
        · exact ⟨D.toNat, by rw [if_pos h0]; omega⟩
        · exact ⟨0, by rw [if_neg h0]; rfl⟩
      rw [hR]
      clear hR eD eD'
      have hzn : zn ≤ A + i * 256 := HR.out.ru.xi.1
      have hzn2 : zn ≤ 100000 := by { have : i * 256 ≤ 64 * 256 := Nat.mul_le_mul (by omega) (Nat.le_refl _); omega }
      have HZn : Hid (zn ≤ A + i * 256) := hzn
      clear hzn
      by_cases hfit : wm ≤ R
      · have i8 : (wm : Int) ≤ (R : Int) := by omega
        as_aux_lemma =>
          obtain ⟨news, hsrc, hni⟩ := src_row (sz := 3) Tryf.underlying43 HJ.out.2.1
          have Hrun := Hid.mk'' (fun ty => run_app43 wr ty (.slice za zn zc) zn HR.out.ru.xi.2 _ wm news hsrc hni HR.out.ru.st.bw (by omega))
          clear hsrc hni
          go_upto_region 63 with (first | (at_builtin; go_must (refine wpList_app (t := 43) rfl (.tmp 290) (.tmp 291) rfl _ _ rfl rfl (Hrun.out _) ?_); rintro v1 w6 ⟨h1, h2, h3⟩; obtain ⟨ya, yc, rfl⟩ := h1.form; have HR6 := Hid.mk'' (HR.out.exp (M' := A + (i + 1) * 256) h2 h1 (by omega) (by have := HZn.out; omega)); clear h1 h2 h3) | fail)
          have qz6 : w6.cell? ⟨kf.mrb, i, none⟩ = some (.int .i64 (r2.getD i 0)) := HR6.out.ru.cr (by rw [HR6.out.ru.l2.2]; exact HL.out)
          obtain ⟨z6, hz6⟩ : ∃ z6, z6 = r2.getD i 0 := ⟨_, rfl⟩
          rw [← hz6] at qz6
          obtain ⟨x6, hx6⟩ : ∃ x6, x6 = wrap64 (z6 + (wm : Int)) := ⟨_, rfl⟩
          have ex6 : IntKind.i64.wrap (z6 + (wm : Int)) = x6 := by rw [hx6]; exact IntWalk.i64_left _
          have ew6 : wrap64 (z6 + (wm : Int)) = x6 := hx6.symm
          have ff6 := HR6.out.ru.mr.frozen
          clear hz6 hx6 Hrun qz cw
          go_wp2_with fail
          go_roundw
          case rel => exact ⟨i + 1, _, _, _, _, by omega, rfl, by go_num, HR6.out.setR i x6⟩
          case measure => simp [intOf]; omega
      · have i8 : ¬ (wm : Int) ≤ (R : Int) := by omega
        have hRw : R < wm := by omega
        have hmk := run_mk1 Tryf.underlying29 info3 rfl wm (by omega) (by omega)
        have H30 := Hid.mk'' (R3.start HR.out HJ.out.2.1 (by omega))
        clear HJ HR qz cw
        go_wp2_with fail
        obtain ⟨w6, hw6⟩ : ∃ w6, w6 = wr.alloc (.cells (Array.replicate wm (.int .i64 0)) 3) := ⟨_, rfl⟩
        obtain ⟨ib, hib⟩ : ∃ ib, ib = wr.heap.size := ⟨_, rfl⟩
        rw [← hw6, ← hib] at H30 ⊢
        clear hw6 hib hmk
        have h256 : wm ≤ 256 := by omega
        go_loopw [38] (fun a wx => ∃ (p : Nat) (xs : List Int), p ≤ wm ∧ a = .int .i64 p ∧ Hid (R3 B w wx kf s r' s r2 (A + i * 256) q (.slice za zn zc) rb tb pa r ib wm xs (.slice wa wm wk))) (fun a _ => wm - (intOf a).toNat)
        case atStart => exact ⟨0, _, Nat.zero_le _, rfl, H30.out⟩
        case round =>
          clear H30
          obtain ⟨p, xs, hp, rfl, H3⟩ := hrel
          by_cases hpl : p < wm
          · as_aux_lemma =>
              have j1 : (p : Int) < (wm : Int) := by omega
              obtain ⟨y, hy, _⟩ := H3.out.cell hpl
              have fi := H3.out.ix.blk.frozen
              go_wp2_with fail
              go_roundw
              case rel => exact ⟨p + 1, _, by omega, by go_num, H3.out.set p (p : Int) (by omega) (by omega)⟩
              case measure => simp [intOf]; omega
          · have j1 : ¬ (p : Int) < (wm : Int) := by omega
            obtain ⟨v, hv⟩ : ∃ v, v = wm - 1 := ⟨_, rfl⟩
            have hv2 : v < wm := by omega
            have ev : IntKind.i64.wrap ((wm : Int) - 1) = (v : Int) := by { rw [IntKind.wrap_i64]; omega }
            have ev2 : wrap64 ((wm : Int) - 1) = (v : Int) := by { rw [← ev, IntWalk.i64_left] }
            clear hv
            go_wp2_with fail
            clear ev ev2 j1
            go_loopw [39] (fun a wx => ∃ (p : Nat) (xs : List Int), p < wm ∧ a = .int .i64 p ∧ Hid (R3 B w wx kf s r' s r2 (A + i * 256) q (.slice za zn zc) rb tb pa r ib wm xs (.slice wa wm wk))) (fun a _ => (intOf a).toNat)
            case atStart => exact ⟨v, _, hv2, rfl, H3.out⟩
            case round =>
              clear H3
              obtain ⟨p, xs, hp, rfl, H3⟩ := hrel
              by_cases hp0 : 0 < p
              · have j1 : (0 : Int) < (p : Int) := by omega
                have Hint : Hid (Calls Tryf.prog 22 #[.pointer (some ⟨rb, 0, none⟩), .int .i64 ((p : Int) + 1)] wr (BelowP (p + 1) .i64 tb wr)) := intnp_any rb tb (p + 1) wr H3.out.r2.rp (by omega) (by omega)
                go_upto_region 73 with (first | (go_at_call 22; refine Hint.out.mono ?_; rintro e w7 ⟨jj, rfl, hjj, h1, h2⟩; have H7 := Hid.mk'' (H3.out.word h2 h1); clear h1 h2) | fail)
                as_aux_lemma =>
                  obtain ⟨y1, hy1, hl1⟩ := H7.out.cell (j := p) hp
                  obtain ⟨y2, hy2, hl2⟩ := H7.out.cell (j := jj) (by omega)
                  have f7 := H7.out.ix.blk.frozen
                  have j2 : (p : Int) < (wm : Int) := by omega
                  have j3 : (jj : Int) < (wm : Int) := by omega
                  go_upto_region 76 with fail
                  obtain ⟨w8, hw8⟩ : ∃ w8, w8 = w7.setCell ⟨ib, p, none⟩ (.int .i64 (y2 : Int)) := ⟨_, rfl⟩
                  have H8 := Hid.mk'' (show R3 B w w8 kf s r' s r2 (A + i * 256) q (.slice za zn zc) rb tb pa r ib wm _ (.slice wa wm wk) by rw [hw8]; exact H7.out.set p (y2 : Int) (by omega) (by omega))
                  rw [← hw8]
                  clear hw8 hy1 hy2 f7 H7
                  obtain ⟨y3, hy3, _⟩ := H8.out.cell (j := jj) (by omega)
                  have f8 := H8.out.ix.blk.frozen
                  obtain ⟨v, hv⟩ : ∃ v, v = p - 1 := ⟨_, rfl⟩
                  have ev : IntKind.i64.wrap ((p : Int) - 1) = (v : Int) := by { rw [IntKind.wrap_i64]; omega }
                  have ev2 : wrap64 ((p : Int) - 1) = (v : Int) := by { rw [← ev, IntWalk.i64_left] }
                  have Hv := Hid.mk'' hv
                  clear hv
                  go_wp2_with fail
                  go_roundw
                  case rel => exact ⟨v, _, by have := Hv.out; omega, rfl, H8.out.set jj (y1 : Int) (by omega) (by omega)⟩
                  case measure =>
                    have := Hv.out
                    simp [intOf]
                    omega
              · have j1 : ¬ (0 : Int) < (p : Int) := by omega
                go_wp2_with fail
                clear j1 hp0
                go_loopw [15, 43] (fun a b wx => ∃ (p : Nat) (ya : Option Addr) (yn yc : Nat), p ≤ R ∧ a = .slice ya yn yc ∧ b = .int .i64 p ∧ Hid (R3 B w wx kf s r' s r2 (A + i * 256 + p) q (.slice ya yn yc) rb tb pa r ib wm xs (.slice wa wm wk))) (fun _ b _ => R - (intOf b).toNat)
                case atStart => exact ⟨0, _, _, _, Nat.zero_le _, rfl, rfl, H3.out⟩
                case round =>
                  clear H3
                  obtain ⟨p, ya, yn, yc, hp, rfl, rfl, H3⟩ := hrel
                  have hyn : yn ≤ A + i * 256 + p := H3.out.r2.ru.xi.1
                  have hyn2 : yn ≤ 100000 := by { have : i * 256 ≤ 64 * 256 := Nat.mul_le_mul (by omega) (Nat.le_refl _); omega }
                  have HYn : Hid (yn ≤ A + i * 256 + p) := hyn
                  clear hyn
                  by_cases hpR : p < R
                  · as_aux_lemma =>
                      obtain ⟨y, hy, hyl⟩ := H3.out.cell (j := p) (by omega)
                      obtain ⟨g, cap2, e, _, _, _, hc⟩ := H3.out.wj.cells (by omega)
                      cases e
                      obtain ⟨t0, c0⟩ := hc (y * 3) (by omega)
                      obtain ⟨t1, c1⟩ := hc (y * 3 + 1) (by omega)
                      obtain ⟨t2, c2⟩ := hc (y * 3 + 2) (by omega)
                      have HI := Hid.mk'' H3.out.r2.ru.xi.2
                      have HBw := Hid.mk'' H3.out.r2.ru.st.bw
                      have j1 : (p : Int) < (R : Int) := by omega
                      have j2 : (p : Int) < (wm : Int) := by omega
                      have j3 : (y : Int) < (wm : Int) := by omega
                      clear hc
                      go_wp2_with (first | (at_builtin; go_must (refine wpList_app (t := 43) rfl (.tmp 346) (.tmp 354) rfl _ _ rfl rfl (run_log wr _ _ yn t0 t1 t2 HI.out HBw.out (by omega)) ?_); intro v1 w7 h1; obtain ⟨ya1, yc1, rfl⟩ := h1.1.form; have H7 := Hid.mk'' (H3.out.exp (M' := A + i * 256 + (p + 1)) h1.2 h1.1 (by omega) (by have := HYn.out; omega)); clear h1) | fail)
                      go_roundw
                      case rel => exact ⟨p + 1, _, _, _, by omega, rfl, by go_num, H7.out⟩
                      case measure => simp [intOf]; omega
                  · as_aux_lemma =>
                      obtain rfl : p = R := by omega
                      have j1 : ¬ (p : Int) < (p : Int) := by omega
                      have qz6 : wr.cell? ⟨kf.mrb, i, none⟩ = some (.int .i64 (r2.getD i 0)) := H3.out.r2.ru.cr (by rw [H3.out.r2.ru.l2.2]; exact HL.out)
                      obtain ⟨z6, hz6⟩ : ∃ z6, z6 = r2.getD i 0 := ⟨_, rfl⟩
                      rw [← hz6] at qz6
                      obtain ⟨x6, hx6⟩ : ∃ x6, x6 = wrap64 (z6 + (p : Int)) := ⟨_, rfl⟩
                      have ex6 : IntKind.i64.wrap (z6 + (p : Int)) = x6 := by rw [hx6]; exact IntWalk.i64_left _
                      have ew6 : wrap64 (z6 + (p : Int)) = x6 := hx6.symm
                      have ff6 := H3.out.r2.ru.mr.frozen
                      clear hz6 hx6
                      go_wp2_with fail
                      go_roundw
                      case rel => exact ⟨i + 1, _, _, _, _, by omega, rfl, by go_num, (H3.out.r2.setR i x6).mono (by omega)⟩
                      case measure => simp [intOf]; omega
    · obtain rfl : n = i := by omega
      have i1 : ¬ (n : Int) < (n : Int) := by omega
      obtain ⟨la, ln, lc, cl, hlk⟩ := RU.look HR.out.ru (by { have : n * 256 ≤ 64 * 256 := Nat.mul_le_mul (by omega) (Nat.le_refl _); omega })
      have Hlk := Hid.mk'' hlk
      obtain ⟨f0, f1, hfr⟩ := HR.out.ru.rs
      have fr0 := hfr.frozen
      have fr1 : wr.cell? ⟨kf.rsb, 0, none⟩ = some (.bool f0) := hfr.cell 0
      clear hlk hfr
      go_upto_if 366 with (first | (go_at_call 19; refine Hlk.out.mono ?_; rintro e w9 ⟨⟨ok, rfl⟩, nq, rfl⟩) | fail)
      go_cut [] from 363 to 367 (fun wx => Hid (R2 B w wx kf s r' s r2 (A + n * 256) q (.slice za zn zc) rb tb pa r))
      case first =>
        cases ok
        · go_wp2_with fail
          go_meet
          exact (HR.out.quiet ((Tame.refl _ _ _).drewN nq)).setF 0 (.inl rfl)
        · go_wp2_with fail
          go_meet
          exact HR.out.quiet ((Tame.refl _ _ _).drewN nq)
      case rest =>
      have HR6 := hcut
      clear HR Hlk fr0 fr1 cl i1 hcut
      have HRw := HR6.out
      obtain ⟨g0, g1, hfr⟩ := HRw.ru.rs
      rw [HKf2.out.1, HKf2.out.2.1, HKf2.out.2.2.1, HKf2.out.2.2.2] at hfr
      have HF := Hid.mk'' hfr
      have d5 : wc.cell? ⟨kf.rsb, 5, none⟩ = some (.slice none 0 0) := hfr.cell 5
      have ff := hfr.frozen
      clear hfr HRw
      go_upto_region 85 with fail
      obtain ⟨w7, hw7⟩ : ∃ w7, w7 = wc.setCell ⟨kf.rsb, 5, none⟩ (.slice (some ⟨kf.msb, 0, none⟩) n n) := ⟨_, rfl⟩
      have ht7 : Tame B false wc w7 (fun j => j = kf.rsb) := by { rw [hw7]; exact Tame.ofKept (Kept.one _ _ _ _) }
      have HF7 : Hid (Blk w7 kf.rsb 31 #[.bool g0, .bool g1, .bool true, .int .i64 y1, .int .i64 y2, .slice (some ⟨kf.msb, 0, none⟩) n n, .slice pa n pc]) := by { rw [hw7]; exact HF.out.set 5 _ }
      have HR7 : Hid (R2 B w w7 (kf.fin (.int .i64 y1) (.int .i64 y2) (.slice (some ⟨kf.msb, 0, none⟩) n n) (.slice pa n pc)) s r' s r2 (A + n * 256) q (.slice za zn zc) rb tb pa r) := HR6.out.fill ht7 HF7.out
      rw [← hw7]
      clear ht7 hw7 HR6 HF d5 ff
      obtain ⟨va, vn, vc, hws, hvn, hall⟩ := HR7.out.st.ws
      have Hws : Hid (Calls Tryf.prog 23 #[.pointer (some ⟨kf.c.sb, 0, none⟩)] w7 (fun e w' => e = .returned (.slice va vn vc) ∧ w' = w7)) := hws
      have Hall := Hid.mk'' hall
      clear hws hall
      go_wp2_with (first | (go_at_call 23; refine Hws.out.mono ?_; rintro e w9 ⟨rfl, hw9⟩; rw [hw9]; clear hw9 w9) | fail)
      go_loopw [45] (fun a wx => ∃ (p : Nat), p ≤ vn ∧ a = .int .i64 p ∧ wx = w7) (fun a _ => vn - (intOf a).toNat)
      case atStart => exact ⟨0, Nat.zero_le _, rfl, rfl⟩
      case round =>
        obtain ⟨p, hp, rfl, rfl⟩ := hrel
        by_cases hpv : p < vn
        · as_aux_lemma =>
            obtain ⟨gg, ga, gk, e, hc⟩ := Hall.out p hpv
            subst e
            have j1 : (p : Int) < (vn : Int) := by omega
            go_wp2_with fail
            go_roundw
            case rel => exact ⟨p + 1, by omega, by go_num, by first | rfl | trivial⟩
            case measure => simp [intOf]; omega
        · have j1 : ¬ (p : Int) < (vn : Int) := by omega
          have x0 : wr.cell? ⟨kf.rsb, 0, none⟩ = some (.bool g0) := HF7.out.cell 0
          have x1 : wr.cell? ⟨kf.rsb, 1, none⟩ = some (.bool g1) := HF7.out.cell 1
          have x2 : wr.cell? ⟨kf.rsb, 2, none⟩ = some (.bool true) := HF7.out.cell 2
          have x3 : wr.cell? ⟨kf.rsb, 3, none⟩ = some (.int .i64 y1) := HF7.out.cell 3
          have x4 : wr.cell? ⟨kf.rsb, 4, none⟩ = some (.int .i64 y2) := HF7.out.cell 4
          have x5 : wr.cell? ⟨kf.rsb, 5, none⟩ = some (.slice (some ⟨kf.msb, 0, none⟩) n n) := HF7.out.cell 5
          have x6 : wr.cell? ⟨kf.rsb, 6, none⟩ = some (.slice pa n pc) := HF7.out.cell 6
          have HE0 : Hid (Blk wr kf.e0 31 Z7) := HR7.out.ru.e0
          have z0 : wr.cell? ⟨kf.e0, 0, none⟩ = some (.bool false) := HE0.out.cell 0
          have z1 : wr.cell? ⟨kf.e0, 1, none⟩ = some (.bool false) := HE0.out.cell 1
          have z2 : wr.cell? ⟨kf.e0, 2, none⟩ = some (.bool false) := HE0.out.cell 2
          have z3 : wr.cell? ⟨kf.e0, 3, none⟩ = some (.int .i64 0) := HE0.out.cell 3
          have z4 : wr.cell? ⟨kf.e0, 4, none⟩ = some (.int .i64 0) := HE0.out.cell 4
          have z5 : wr.cell? ⟨kf.e0, 5, none⟩ = some (.slice none 0 0) := HE0.out.cell 5
          have z6 : wr.cell? ⟨kf.e0, 6, none⟩ = some (.slice none 0 0) := HE0.out.cell 6
          have zf := HE0.out.frozen
          go_wp2_with fail
          have kk : Kept wr (((((((wr.setCell ⟨kf.e0, 0, none⟩ (.bool g0)).setCell ⟨kf.e0, 1, none⟩ (.bool g1)).setCell ⟨kf.e0, 2, none⟩ (.bool true)).setCell ⟨kf.e0, 3, none⟩ (.int .i64 y1)).setCell ⟨kf.e0, 4, none⟩ (.int .i64 y2)).setCell ⟨kf.e0, 5, none⟩ (.slice (some ⟨kf.msb, 0, none⟩) n n)).setCell ⟨kf.e0, 6, none⟩ (.slice pa n pc)) (fun j => j = kf.e0) := Kept.set (Kept.set (Kept.set (Kept.set (Kept.set (Kept.set (Kept.one _ _ _ _) (.inl rfl) _) (.inl rfl) _) (.inl rfl) _) (.inl rfl) _) (.inl rfl) _) (.inl rfl) _
          have hBe : Blk (((((((wr.setCell ⟨kf.e0, 0, none⟩ (.bool g0)).setCell ⟨kf.e0, 1, none⟩ (.bool g1)).setCell ⟨kf.e0, 2, none⟩ (.bool true)).setCell ⟨kf.e0, 3, none⟩ (.int .i64 y1)).setCell ⟨kf.e0, 4, none⟩ (.int .i64 y2)).setCell ⟨kf.e0, 5, none⟩ (.slice (some ⟨kf.msb, 0, none⟩) n n)).setCell ⟨kf.e0, 6, none⟩ (.slice pa n pc)) kf.e0 31 #[.bool g0, .bool g1, .bool true, .int .i64 y1, .int .i64 y2, .slice (some ⟨kf.msb, 0, none⟩) n n, .slice pa n pc] := (((((((HE0.out.set 0 _).set 1 _).set 2 _).set 3 _).set 4 _).set 5 _).set 6 _)
          have r0 := hBe.cell 0
          have r1 := hBe.cell 1
          have r2 := hBe.cell 2
          have r3 := hBe.cell 3
          have r4 := hBe.cell 4
          have r5 := hBe.cell 5
          have r6 := hBe.cell 6
          refine bodyPost_ret (v := .agg #[.bool g0, .bool g1, .bool true, .int .i64 y1, .int .i64 y2, .slice (some ⟨kf.msb, 0, none⟩) n n, .slice pa n pc]) ?_ rfl ?_
          · simp [results, Tryf.results7, go_sem, r0, r1, r2, r3, r4, r5, r6]
          · have hne : ¬ kf.msb = kf.e0 := fun e => HE0.out.notT (T' := 3) (by decide) _ (by rw [← e]; exact HR7.out.ru.ms)
            refine ⟨g0, g1, r', kf.msb, pa, pc, by rw [HY1.out, HY2.out, HNn.out, HSR.out.1], ?_, ?_, ?_, ?_⟩
            · rw [← HSR.out.1]
              exact Blk.kept (show Blk wr kf.msb 3 (ic s).toArray from HR7.out.ru.ms) kk hne
            · rw [← HSR.out.2]
              exact (HR7.out.pre.tame' (B := B) (Tame.ofKept (S := false) kk) (fun j e => .inr (by subst e; exact HE0.out.notT (by decide)))).view
            · rw [← HSR.out.2, ← HNn.out]
              exact HRR.out
            · refine HR7.out.ru.kp.next kk (fun j hj e => ?_)
              have h1 : B ≤ kf.e0 := HR7.out.ru.ok.new.2.2.2.2
              have h2 := HR7.out.ru.ok.sz
              omega
end Go.Proofs.Qxb6003861aFmt
