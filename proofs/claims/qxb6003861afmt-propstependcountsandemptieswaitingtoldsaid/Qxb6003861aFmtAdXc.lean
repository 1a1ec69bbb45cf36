import Derived.Test.Qxb6003861aFmtAdX
namespace Go.Proofs.Qxb6003861aFmt
open Go.RowKit
set_option linter.unusedVariables false
set_option linter.unusedSimpArgs false
variable {B : Nat}

set_option maxRecDepth 100000 in
set_option maxHeartbeats 8000000 in
theorem sw_r0 (w : World) (k : RC) (ids tape : List Int) (limit : Int) (ops : List DO) (n q : Nat) (a b out inn : Int) (xa : Option Addr) (xn xc pb : Nat) (W1 : World) (s r : List Int) (J K' : Act → World → Prop) (Q' : Exit → Act → World → Prop)
    (t0 t1 t2 t3 t4 t5 t6 t7 t8 t10 t11 t12 t13 t22 t23 t24 t25 t26 t27 t28 t29 t30 t31 t32 t33 t34 t35 t36 t37 t38 t39 t40 t41 t42 t43 t44 t45 t46 t47 t48 t49 t50 t51 t52 t53 t54 t55 t56 t57 t58 t59 t60 t61 t62 t63 t64 t65 t66 t67 t68 t69 t70 t71 t72 t73 t74 t75 t76 t77 t78 t79 t80 t81 t82 t83 t84 t85 t86 t87 t88 t89 t90 t91 t92 t93 t94 t96 t97 t98 t99 t100 t101 t102 t103 t104 t105 t106 t107 t108 t109 t110 t111 t112 t113 t114 t115 t116 t117 t118 t119 t120 t121 t122 t123 t124 t125 t126 t127 t128 t129 t130 t131 t132 t133 t134 t135 t136 t137 t138 t139 t140 t141 t142 t143 t144 t145 t146 t147 t148 t149 t150 t151 t152 t153 t154 t155 t156 t157 t158 t159 t160 t161 t162 t163 t164 t165 t166 t167 t168 t169 t170 t171 t172 t173 t174 t175 t176 t177 t178 t179 t180 t181 t182 t183 t184 t185 t186 t187 t188 t189 t190 t191 t192 t193 t194 t195 t196 t197 t198 t199 t200 t201 t202 t203 t204 t205 t206 t207 t208 t209 t210 t211 t212 t213 t214 t215 t216 t217 t218 t219 t220 t221 t222 t223 t224 t225 t226 t227 t228 t229 t230 t231 t232 t233 t234 t235 t236 t237 t238 t239 t240 t241 t242 t243 t244 t245 t246 t247 t248 t249 t250 t251 t252 t253 t254 t255 t256 t257 t258 t259 t260 t261 t262 t263 t264 t265 t266 t267 t268 t269 t270 t271 t272 t273 t274 t275 t276 t277 t278 t279 t280 t281 t282 t283 t284 t285 t286 t287 t288 t289 t290 t291 t292 t293 t294 t295 t296 t297 t298 t299 t300 t301 t302 t303 t304 t305 t306 t307 t308 t309 t310 t311 t312 t313 t314 t315 t316 t317 t318 t319 t320 t321 t322 t323 t324 t325 t326 t327 t328 t329 t330 t331 t332 t333 t334 t335 t336 t337 t338 t339 t340 t341 t342 t343 t344 t345 t346 t347 t348 t349 t350 t351 t352 t353 t354 t355 t356 t357 t358 t359 t360 t361 t362 t363 t364 t365 t366 t367 t368 t369 t370 t371 t372 t373 t374 t375 t376 t377 t378 t379 t380 t381 t382 t383 t384 t385 : Value)
    (hn64 : n ≤ 64) (hq256 : q < 256) (HNn : Hid (n = ids.length)) (HIds : Hid (k.c.ids = ids ∧ k.c.limit = limit ∧ k.tp = tape)) (Hg : Hid (good ids ⟨1, a, b, 0, out, inn⟩)) (hsl : s.length = n) (hrl : r.length = n)
    (HU : Hid (RU B w W1 k s r s r q q (.slice xa xn xc))) (HBp : Hid (Blk W1 pb 36 #[.int .i64 1, .int .i64 a, .int .i64 b, .int .i64 0, .int .i64 out, .int .i64 inn]))
    (HNX : Hid (∀ (W' : World) (s' r' : List Int) (xv : Value), nxt ids (s, r) ⟨1, a, b, 0, out, inn⟩ = (s', r') → RU B w W' k s' r' s' r' (q + 1) (q + 1) xv → RQ B w W' k ids ops (q + 1) xv))
    (hJ : ∀ (a' : Act) (w' : World), (∃ u15 u22 u23 u24 u25 u26 u27 u28 u29 u30 u31 u32 u84 u85 u86 u87 u88 u89 u90 u91 u92 u93 u94 u95 u96 u97 u98 u99 u100 u101 u102 u103 u104 u105 u106 u107 u108 u109 u110 u111 u112 u113 u114 u115 u116 u117 u118 u119 u120 u121 u122 u123 u124 u125 u126 u127 u128 u129 u130 u131 u132 u133 u134 u135 u136 u137 u138 u139 u140 u141 u142 u143 u144 u145 u146 u147 u148 u149 u150 u151 u152 u153 u154 u155 u156 u157 u158 u159 u160 u161 u162 u163 u164 u165 u166 u167 u168 u169 u170 u171 u172 u173 u174 u175 u176 u177 u178 u179 u180 u181 u182 u183 u184 u185 u186 u187 u188 u189 u190 u191 u192 u193 u194 u195 u196 u197 u198 u199 u200 u201 u202 u203 u204 u205 u206 u207 u208 u209 u210 u211 u212 u213 u214 u215 u216 u217 u218 u219 u220 u221 u222 u223 u224 u225 u226 u227 u228 u229 u230 u231 u232 u233 u234 u235 u236 u237 u238 u239 u240 u241 u242 u243 u244 u245 u246 u247 u248 u249 u250 u251 u252 u253, (∃ (ya : Option Addr) (yn yc : Nat), u15 = .slice ya yn yc ∧ Hid (RQ B w w' k ids ops (q + 1) (.slice ya yn yc))) ∧ a' = { tmps := #[t0, t1, t2, t3, t4, t5, t6, t7, t8, .slice k.c.cao n k.c.ccap, t10, t11, t12, t13, .pointer (some ⟨k.c.sb, 0, none⟩), u15, .slice (some ⟨k.msb, 0, none⟩) n n, .slice (some ⟨k.mrb, 0, none⟩) n n, .slice (some ⟨k.wtb, 0, none⟩) n n, .pointer (some ⟨k.rsb, 0, none⟩), .int .i64 (q : Int), .pointer (some ⟨pb, 0, none⟩), u22, u23, u24, u25, u26, u27, u28, u29, u30, u31, u32, t33, t34, t35, t36, t37, t38, t39, t40, t41, t42, t43, t44, t45, t46, t47, t48, t49, t50, t51, t52, t53, t54, t55, t56, t57, t58, t59, t60, t61, t62, t63, t64, t65, t66, t67, t68, t69, t70, t71, t72, t73, t74, t75, t76, t77, t78, t79, t80, t81, t82, t83, u84, u85, u86, u87, u88, u89, u90, u91, u92, u93, u94, u95, u96, u97, u98, u99, u100, u101, u102, u103, u104, u105, u106, u107, u108, u109, u110, u111, u112, u113, u114, u115, u116, u117, u118, u119, u120, u121, u122, u123, u124, u125, u126, u127, u128, u129, u130, u131, u132, u133, u134, u135, u136, u137, u138, u139, u140, u141, u142, u143, u144, u145, u146, u147, u148, u149, u150, u151, u152, u153, u154, u155, u156, u157, u158, u159, u160, u161, u162, u163, u164, u165, u166, u167, u168, u169, u170, u171, u172, u173, u174, u175, u176, u177, u178, u179, u180, u181, u182, u183, u184, u185, u186, u187, u188, u189, u190, u191, u192, u193, u194, u195, u196, u197, u198, u199, u200, u201, u202, u203, u204, u205, u206, u207, u208, u209, u210, u211, u212, u213, u214, u215, u216, u217, u218, u219, u220, u221, u222, u223, u224, u225, u226, u227, u228, u229, u230, u231, u232, u233, u234, u235, u236, u237, u238, u239, u240, u241, u242, u243, u244, u245, u246, u247, u248, u249, u250, u251, u252, u253, t254, t255, t256, t257, t258, t259, t260, t261, t262, t263, t264, t265, t266, t267, t268, t269, t270, t271, t272, t273, t274, t275, t276, t277, t278, t279, t280, t281, t282, t283, t284, t285, t286, t287, t288, t289, t290, t291, t292, t293, t294, t295, t296, t297, t298, t299, t300, t301, t302, t303, t304, t305, t306, t307, t308, t309, t310, t311, t312, t313, t314, t315, t316, t317, t318, t319, t320, t321, t322, t323, t324, t325, t326, t327, t328, t329, t330, t331, t332, t333, t334, t335, t336, t337, t338, t339, t340, t341, t342, t343, t344, t345, t346, t347, t348, t349, t350, t351, t352, t353, t354, t355, t356, t357, t358, t359, t360, t361, t362, t363, t364, t365, t366, t367, t368, t369, t370, t371, t372, t373, t374, t375, t376, t377, t378, t379, t380, t381, t382, t383, t384, t385], defers := [] }) → J a' w')
    (hM : ∀ (a' : Act) (w' : World), Met J a' w' → K' a' w') (hPn : ∀ (c : _) (a1 : Act) (d : Option Tmp) (v : Value) (w' : World), Q' (Exit.panic c) (a1.put d v) w' → Q' (Exit.panic c) a1 w') :
    Code.wp Tryf.prog (sw7 Tryf.f7) (Exit.then K' Q') { tmps := #[t0, t1, t2, t3, t4, t5, t6, t7, t8, .slice k.c.cao n k.c.ccap, t10, t11, t12, t13, .pointer (some ⟨k.c.sb, 0, none⟩), .slice xa xn xc, .slice (some ⟨k.msb, 0, none⟩) n n, .slice (some ⟨k.mrb, 0, none⟩) n n, .slice (some ⟨k.wtb, 0, none⟩) n n, .pointer (some ⟨k.rsb, 0, none⟩), .int .i64 (q : Int), .pointer (some ⟨pb, 0, none⟩), t22, t23, t24, t25, t26, t27, t28, t29, t30, t31, t32, t33, t34, t35, t36, t37, t38, t39, t40, t41, t42, t43, t44, t45, t46, t47, t48, t49, t50, t51, t52, t53, t54, t55, t56, t57, t58, t59, t60, t61, t62, t63, t64, t65, t66, t67, t68, t69, t70, t71, t72, t73, t74, t75, t76, t77, t78, t79, t80, t81, t82, t83, t84, t85, t86, t87, t88, t89, t90, t91, t92, t93, t94, .int .i64 (1), t96, t97, t98, t99, t100, t101, t102, t103, t104, t105, t106, t107, t108, t109, t110, t111, t112, t113, t114, t115, t116, t117, t118, t119, t120, t121, t122, t123, t124, t125, t126, t127, t128, t129, t130, t131, t132, t133, t134, t135, t136, t137, t138, t139, t140, t141, t142, t143, t144, t145, t146, t147, t148, t149, t150, t151, t152, t153, t154, t155, t156, t157, t158, t159, t160, t161, t162, t163, t164, t165, t166, t167, t168, t169, t170, t171, t172, t173, t174, t175, t176, t177, t178, t179, t180, t181, t182, t183, t184, t185, t186, t187, t188, t189, t190, t191, t192, t193, t194, t195, t196, t197, t198, t199, t200, t201, t202, t203, t204, t205, t206, t207, t208, t209, t210, t211, t212, t213, t214, t215, t216, t217, t218, t219, t220, t221, t222, t223, t224, t225, t226, t227, t228, t229, t230, t231, t232, t233, t234, t235, t236, t237, t238, t239, t240, t241, t242, t243, t244, t245, t246, t247, t248, t249, t250, t251, t252, t253, t254, t255, t256, t257, t258, t259, t260, t261, t262, t263, t264, t265, t266, t267, t268, t269, t270, t271, t272, t273, t274, t275, t276, t277, t278, t279, t280, t281, t282, t283, t284, t285, t286, t287, t288, t289, t290, t291, t292, t293, t294, t295, t296, t297, t298, t299, t300, t301, t302, t303, t304, t305, t306, t307, t308, t309, t310, t311, t312, t313, t314, t315, t316, t317, t318, t319, t320, t321, t322, t323, t324, t325, t326, t327, t328, t329, t330, t331, t332, t333, t334, t335, t336, t337, t338, t339, t340, t341, t342, t343, t344, t345, t346, t347, t348, t349, t350, t351, t352, t353, t354, t355, t356, t357, t358, t359, t360, t361, t362, t363, t364, t365, t366, t367, t368, t369, t370, t371, t372, t373, t374, t375, t376, t377, t378, t379, t380, t381, t382, t383, t384, t385], defers := [] } W1 := by
  have HPl : Hid (∀ (W : World) (s r s2 r2 : List Int) (M K : Nat) (xv : Value) (v : Int), RU B w W k s r s2 r2 M K xv → Calls Tryf.prog 8 #[.slice k.c.cao n k.c.ccap, .int .i64 v] W fun e w' => e = .returned (.tuple #[.int .i64 ((pl ids v).getD 0 : Nat), .bool (pl ids v).isSome]) ∧ w' = W) := by
    intro W s r s2 r2 M K xv v h
    have h2 := h.place v
    rw [HIds.out.1, ← HNn.out] at h2
    exact h2
  have HZz : Hid (∀ (W : World) (s r s2 r2 : List Int) (M K : Nat) (xv : Value), RU B w W k s r s2 r2 M K xv → Calls Tryf.prog 17 #[.pointer (some ⟨k.c.sb, 0, none⟩)] W fun e w' => e = .returned (.slice k.c.so n k.c.sc) ∧ w' = W) := by
    intro W s r s2 r2 M K xv h
    have h2 := h.zz
    rw [HIds.out.1, ← HNn.out] at h2
    exact h2
  have HSm : Hid (∀ (W : World) (s r s2 r2 : List Int) (M K : Nat) (xv : Value), RU B w W k s r s2 r2 M K xv → Calls Tryf.prog 16 #[.slice k.c.so n k.c.sc, .slice (some ⟨k.msb, 0, none⟩) n n] W (Someb W)) := by
    intro W s r s2 r2 M K xv h
    have h2 := h.same
    rw [HIds.out.1, ← HNn.out] at h2
    exact h2
  have hxn : xn ≤ q := HU.out.xi.1
  dsimp only [sw7, for7, body7, Tryf.f7, sq1, sq2, bk, lp, Option.getD]
  rcases hpb2 : pl ids b with _ | j
  · as_aux_lemma =>
      obtain ⟨i, hpi⟩ : ∃ i, pl ids a = some i := Option.isSome_iff_exists.1 (by { rcases Hg.out with h | h | h; exact absurd h.1 (show ¬ (1 : Int) = 0 by decide); exact (h.2.elim (fun e => absurd e (show ¬ (0 : Int) = 2 by decide)) (fun e => e.2)); exact absurd h.1 (show ¬ (1 : Int) = 2 by decide) })
      have HPa := Hid.mk'' hpi
      have hlti : i < n := by rw [HNn.out]; exact pl_lt hpi
      clear hpi
      have ji : (i : Int) < (n : Int) := by omega
      have HPb := Hid.mk'' hpb2
      clear hpb2
      have Hcall : Hid (Calls Tryf.prog 15 #[.pointer (some ⟨k.c.sb, 0, none⟩), .int .i64 a, .int .i64 b, .int .i64 0, .int .i64 q] W1 (Stepped B W1 k.c (up s i 1) r q q)) := apart0_any W1 k.c s r q q a b q i HU.out.st (by rw [HIds.out.1]; exact HPa.out) (by rw [HIds.out.1]; exact HPb.out)
      have p1 : W1.cell? ⟨pb, 1, none⟩ = some (.int .i64 a) := HBp.out.cell 1
      have p2 : W1.cell? ⟨pb, 2, none⟩ = some (.int .i64 b) := HBp.out.cell 2
      have p3 : W1.cell? ⟨pb, 3, none⟩ = some (.int .i64 0) := HBp.out.cell 3
      go_upto_region 32 with (first | (go_at_call 15; refine Hcall.out.mono ?_; rintro e w2 ⟨rfl, h1, h2⟩; have HU2 := Hid.mk'' (HU.out.step h1 h2 (by omega) (by omega)); have HBp2 := Hid.mk'' (HU.out.op HBp.out h2); clear h1 h2; dsimp only) | fail)
      clear p1 p2 p3 Hcall HU HBp
      have p1 : w2.cell? ⟨pb, 1, none⟩ = some (.int .i64 a) := HBp2.out.cell 1
      obtain ⟨z1, hz1⟩ : ∃ z, z = s.getD i 0 := ⟨_, rfl⟩
      have qq1 : w2.cell? ⟨k.msb, i, none⟩ = some (.int .i64 z1) := by rw [hz1]; exact HU2.out.cs (by omega)
      have ff1 := HU2.out.ms.frozen
      obtain ⟨x1, hx1⟩ : ∃ x, x = wrap64 (z1 + 1) := ⟨_, rfl⟩
      have ex1 : IntKind.i64.wrap (z1 + 1) = x1 := by rw [hx1]; exact IntWalk.i64_left _
      have ew1 : wrap64 (z1 + 1) = x1 := hx1.symm
      have HX1 : Hid (up s i 1 = s.set i x1) := by rw [hx1, hz1]; rfl
      have hps1 : ¬ pb = k.msb := (HU2.out.op3 HBp2.out).1
      have hpt1 : ¬ k.msb = pb := fun e => hps1 e.symm
      clear hz1 hx1
      go_upto_region 34 with (first | (go_at_call 8; refine (HPl.out _ _ _ _ _ _ _ _ a HU2.out).mono ?_; rintro e w9 ⟨rfl, hw9⟩; rw [hw9]; clear hw9 w9; rw [HPa.out]; simp only [Option.getD_some, Option.isSome_some, Option.getD_none, Option.isSome_none]) | fail)
      go_upto_region 35 with fail
      clear p1
      obtain ⟨w3, hw3⟩ : ∃ V, V = w2.setCell ⟨k.msb, i, none⟩ (.int .i64 x1) := ⟨_, rfl⟩
      have HU3 : Hid (RU B w w3 k (up s i 1) r (s.set i x1) r q q (.slice xa xn xc)) := by rw [hw3]; exact HU2.out.setS i x1
      have HBp3 := Hid.mk'' (show Blk w3 pb 36 _ by rw [hw3]; exact HBp2.out.kept (Kept.one _ _ _ _) hps1)
      rw [← hw3]
      clear hw3 qq1 ff1 ex1 ew1 hps1 hpt1 HU2 HBp2
      have p2 : w3.cell? ⟨pb, 2, none⟩ = some (.int .i64 b) := HBp3.out.cell 2
      go_upto_region 36 with (first | (go_at_call 8; refine (HPl.out _ _ _ _ _ _ _ _ b HU3.out).mono ?_; rintro e w9 ⟨rfl, hw9⟩; rw [hw9]; clear hw9 w9; rw [HPb.out]; simp only [Option.getD_some, Option.isSome_some, Option.getD_none, Option.isSome_none]) | fail)
      clear p2
      have Hzz := Hid.mk'' (HZz.out _ _ _ _ _ _ _ _ HU3.out)
      have Hsm := Hid.mk'' (HSm.out _ _ _ _ _ _ _ _ HU3.out)
      obtain ⟨fp, fq, hfr⟩ := HU3.out.rs
      have fr0 := hfr.frozen
      have fr1 : w3.cell? ⟨k.rsb, 1, none⟩ = some (.bool fq) := hfr.cell 1
      clear hfr
      go_upto_if 169 with (first | (go_at_call 17; refine Hzz.out.mono ?_; rintro e w9 ⟨rfl, hw9⟩; rw [hw9]; clear hw9 w9; dsimp only) | (go_at_call 16; refine Hsm.out.mono ?_; rintro e w9 ⟨⟨ok, rfl⟩, nq, rfl⟩; dsimp only) | fail)
      cases ok
      · go_wp2_with fail
        go_meet
        refine ⟨_, _, _, rfl, HNX.out _ _ _ _ (show _ = ((up s i 1), r) by simp [nxt, HPa.out, HPb.out]) ?_⟩
        have h := (HU3.out.drewN nq).setF 1 (.inr rfl)
        rw [← HX1.out] at h; exact h.mono (by omega) (by omega)
      · go_wp2_with fail
        go_meet
        refine ⟨_, _, _, rfl, HNX.out _ _ _ _ (show _ = ((up s i 1), r) by simp [nxt, HPa.out, HPb.out]) ?_⟩
        have h := HU3.out.drewN nq
        rw [← HX1.out] at h; exact h.mono (by omega) (by omega)
  · as_aux_lemma =>
      obtain ⟨i, hpi⟩ : ∃ i, pl ids a = some i := Option.isSome_iff_exists.1 (by { rcases Hg.out with h | h | h; exact absurd h.1 (show ¬ (1 : Int) = 0 by decide); exact (h.2.elim (fun e => absurd e (show ¬ (0 : Int) = 2 by decide)) (fun e => e.2)); exact absurd h.1 (show ¬ (1 : Int) = 2 by decide) })
      have HPa := Hid.mk'' hpi
      have hlti : i < n := by rw [HNn.out]; exact pl_lt hpi
      clear hpi
      have ji : (i : Int) < (n : Int) := by omega
      have hltj : j < n := by rw [HNn.out]; exact pl_lt hpb2
      have HPb := Hid.mk'' hpb2
      clear hpb2
      have jj : (j : Int) < (n : Int) := by omega
      obtain ⟨wa, wm, wk, hwj⟩ := HU.out.wj (j := j) (by rw [HIds.out.1, ← HNn.out]; exact hltj)
      have HJ := Hid.mk'' hwj
      have hwm : wm ≤ q := hwj.2.2
      clear hwj
      have Hcall : Hid (Calls Tryf.prog 15 #[.pointer (some ⟨k.c.sb, 0, none⟩), .int .i64 a, .int .i64 b, .int .i64 0, .int .i64 q] W1 (Stepped B W1 k.c (up s i 1) r q (q + 1))) := apart_any W1 k.c s r q q a b q i j HU.out.st (by omega) (by rw [HIds.out.1]; exact HPa.out) (by rw [HIds.out.1]; exact HPb.out)
      have p1 : W1.cell? ⟨pb, 1, none⟩ = some (.int .i64 a) := HBp.out.cell 1
      have p2 : W1.cell? ⟨pb, 2, none⟩ = some (.int .i64 b) := HBp.out.cell 2
      have p3 : W1.cell? ⟨pb, 3, none⟩ = some (.int .i64 0) := HBp.out.cell 3
      go_upto_region 32 with (first | (go_at_call 15; refine Hcall.out.mono ?_; rintro e w2 ⟨rfl, h1, h2⟩; have HU2 := Hid.mk'' (HU.out.step h1 h2 (by omega) (by omega)); have HBp2 := Hid.mk'' (HU.out.op HBp.out h2); have HJ2 := Hid.mk'' (HJ.out.step HU.out h2); clear h1 h2; dsimp only) | fail)
      clear p1 p2 p3 Hcall HU HBp HJ
      have p1 : w2.cell? ⟨pb, 1, none⟩ = some (.int .i64 a) := HBp2.out.cell 1
      obtain ⟨z1, hz1⟩ : ∃ z, z = s.getD i 0 := ⟨_, rfl⟩
      have qq1 : w2.cell? ⟨k.msb, i, none⟩ = some (.int .i64 z1) := by rw [hz1]; exact HU2.out.cs (by omega)
      have ff1 := HU2.out.ms.frozen
      obtain ⟨x1, hx1⟩ : ∃ x, x = wrap64 (z1 + 1) := ⟨_, rfl⟩
      have ex1 : IntKind.i64.wrap (z1 + 1) = x1 := by rw [hx1]; exact IntWalk.i64_left _
      have ew1 : wrap64 (z1 + 1) = x1 := hx1.symm
      have HX1 : Hid (up s i 1 = s.set i x1) := by rw [hx1, hz1]; rfl
      have hps1 : ¬ pb = k.msb := (HU2.out.op3 HBp2.out).1
      have hpt1 : ¬ k.msb = pb := fun e => hps1 e.symm
      clear hz1 hx1
      go_upto_region 34 with (first | (go_at_call 8; refine (HPl.out _ _ _ _ _ _ _ _ a HU2.out).mono ?_; rintro e w9 ⟨rfl, hw9⟩; rw [hw9]; clear hw9 w9; rw [HPa.out]; simp only [Option.getD_some, Option.isSome_some, Option.getD_none, Option.isSome_none]) | fail)
      go_upto_region 35 with fail
      clear p1
      obtain ⟨w3, hw3⟩ : ∃ V, V = w2.setCell ⟨k.msb, i, none⟩ (.int .i64 x1) := ⟨_, rfl⟩
      have HU3 : Hid (RU B w w3 k (up s i 1) r (s.set i x1) r q (q + 1) (.slice xa xn xc)) := by rw [hw3]; exact HU2.out.setS i x1
      have HBp3 := Hid.mk'' (show Blk w3 pb 36 _ by rw [hw3]; exact HBp2.out.kept (Kept.one _ _ _ _) hps1)
      have HJ3 : Hid (WJ B w3 k j q (.slice wa wm wk) wm) := by rw [hw3]; exact HJ2.out.one HU2.out.ms
      rw [← hw3]
      clear hw3 qq1 ff1 ex1 ew1 hps1 hpt1 HU2 HBp2 HJ2
      have p2 : w3.cell? ⟨pb, 2, none⟩ = some (.int .i64 b) := HBp3.out.cell 2
      go_upto_region 36 with (first | (go_at_call 8; refine (HPl.out _ _ _ _ _ _ _ _ b HU3.out).mono ?_; rintro e w9 ⟨rfl, hw9⟩; rw [hw9]; clear hw9 w9; rw [HPb.out]; simp only [Option.getD_some, Option.isSome_some, Option.getD_none, Option.isSome_none]) | fail)
      clear p2
      have p1 : w3.cell? ⟨pb, 1, none⟩ = some (.int .i64 a) := HBp3.out.cell 1
      have p2 : w3.cell? ⟨pb, 2, none⟩ = some (.int .i64 b) := HBp3.out.cell 2
      have hpw : ¬ pb = k.wtb := (HU3.out.op3 HBp3.out).2.2
      have hpw2 : ¬ k.wtb = pb := fun e => hpw e.symm
      have cj : w3.cell? ⟨k.wtb, j, none⟩ = some (.slice wa wm wk) := HJ3.out.cell
      have cja : (w3.alloc (.cells #[.int .i64 a, .int .i64 b, .int .i64 (q : Int)] 47)).cell? ⟨k.wtb, j, none⟩ = some (.slice wa wm wk) := (HJ3.out.quiet ((Tame.refl _ _ _).alloc _)).cell
      go_upto_region 40 with fail
      refine wp_region_held_drew (S := fun W => W.cell? ⟨pb, 1, none⟩ = some (.int .i64 a) ∧ W.cell? ⟨pb, 2, none⟩ = some (.int .i64 b)) (by kernel_rfl) (by exact ⟨p1, p2⟩) (fun hHeld => ?_)
      refine wpAnyH_take (i := 0) (oi := { dst := some 173, op := Op.move (Operand.tmp 18), type := 50, pos := _, after := #[], guard := none }) (v := .slice (some ⟨k.wtb, 0, none⟩) n n) rfl (by kernel_rfl) (by kernel_rfl) (by kernel_rfl) (fun _ _ _ h => hPn _ _ _ _ _ h) (Or.inl ⟨by rfl, fun W hSW => by go_simp⟩) (by assumption) ?_
      try simp only [Act.put, List.setIfInBounds_toArray, List.set_cons_zero, List.set_cons_succ]
      refine wpAnyH_take (i := 1) (oi := { dst := some 174, op := Op.move (Operand.tmp 27), type := 3, pos := _, after := #[], guard := none }) (v := .int .i64 (j : Int)) rfl (by kernel_rfl) (by kernel_rfl) (by kernel_rfl) (fun _ _ _ h => hPn _ _ _ _ _ h) (Or.inl ⟨by rfl, fun W hSW => by go_simp⟩) (by assumption) ?_
      try simp only [Act.put, List.setIfInBounds_toArray, List.set_cons_zero, List.set_cons_succ]
      refine wpAnyH_take (i := 2) (oi := { dst := some 175, op := Op.move (Operand.tmp 18), type := 50, pos := _, after := #[], guard := none }) (v := .slice (some ⟨k.wtb, 0, none⟩) n n) rfl (by kernel_rfl) (by kernel_rfl) (by kernel_rfl) (fun _ _ _ h => hPn _ _ _ _ _ h) (Or.inl ⟨by rfl, fun W hSW => by go_simp⟩) (by assumption) ?_
      try simp only [Act.put, List.setIfInBounds_toArray, List.set_cons_zero, List.set_cons_succ]
      refine wpAnyH_take (i := 3) (oi := { dst := some 176, op := Op.move (Operand.tmp 27), type := 3, pos := _, after := #[], guard := none }) (v := .int .i64 (j : Int)) rfl (by kernel_rfl) (by kernel_rfl) (by kernel_rfl) (fun _ _ _ h => hPn _ _ _ _ _ h) (Or.inl ⟨by rfl, fun W hSW => by go_simp⟩) (by assumption) ?_
      try simp only [Act.put, List.setIfInBounds_toArray, List.set_cons_zero, List.set_cons_succ]
      refine wpAnyH_take (i := 4) (oi := { dst := some 177, op := Op.indexAddr 50 (Operand.tmp 175) (Operand.tmp 176), type := 0, pos := _, after := #[{ on := 2, ground := Ground.data }, { on := 3, ground := Ground.data }], guard := none }) (v := .pointer (some ⟨k.wtb, j, none⟩)) rfl (by kernel_rfl) (by kernel_rfl) (by kernel_rfl) (fun _ _ _ h => hPn _ _ _ _ _ h) (Or.inl ⟨by rfl, fun W hSW => by go_simp⟩) (by assumption) ?_
      try simp only [Act.put, List.setIfInBounds_toArray, List.set_cons_zero, List.set_cons_succ]
      refine wpAnyH_take (i := 6) (oi := { dst := some 179, op := Op.fieldAddr 36 (Operand.tmp 21) 1, type := 0, pos := _, after := #[], guard := none }) (v := .pointer (some ⟨pb, 1, none⟩)) rfl (by kernel_rfl) (by kernel_rfl) (by kernel_rfl) (fun _ _ _ h => hPn _ _ _ _ _ h) (Or.inl ⟨by rfl, fun W hSW => by go_simp⟩) (by assumption) ?_
      try simp only [Act.put, List.setIfInBounds_toArray, List.set_cons_zero, List.set_cons_succ]
      refine wpAnyH_take (i := 7) (oi := { dst := some 180, op := Op.load 2 (Operand.tmp 179), type := 2, pos := _, after := #[{ on := 6, ground := Ground.data }], guard := none }) (v := .int .i64 a) rfl (by kernel_rfl) (by kernel_rfl) (by kernel_rfl) (fun _ _ _ h => hPn _ _ _ _ _ h) (Or.inl ⟨by rfl, fun W hSW => by have hc1 : W.cell? ⟨pb, 1, none⟩ = some (.int .i64 a) := hSW.1; go_simp⟩) (by assumption) ?_
      try simp only [Act.put, List.setIfInBounds_toArray, List.set_cons_zero, List.set_cons_succ]
      refine wpAnyH_take (i := 8) (oi := { dst := some 181, op := Op.fieldAddr 36 (Operand.tmp 21) 2, type := 0, pos := _, after := #[], guard := none }) (v := .pointer (some ⟨pb, 2, none⟩)) rfl (by kernel_rfl) (by kernel_rfl) (by kernel_rfl) (fun _ _ _ h => hPn _ _ _ _ _ h) (Or.inl ⟨by rfl, fun W hSW => by go_simp⟩) (by assumption) ?_
      try simp only [Act.put, List.setIfInBounds_toArray, List.set_cons_zero, List.set_cons_succ]
      refine wpAnyH_take (i := 9) (oi := { dst := some 182, op := Op.load 2 (Operand.tmp 181), type := 2, pos := _, after := #[{ on := 8, ground := Ground.data }], guard := none }) (v := .int .i64 b) rfl (by kernel_rfl) (by kernel_rfl) (by kernel_rfl) (fun _ _ _ h => hPn _ _ _ _ _ h) (Or.inl ⟨by rfl, fun W hSW => by have hc2 : W.cell? ⟨pb, 2, none⟩ = some (.int .i64 b) := hSW.2; go_simp⟩) (by assumption) ?_
      try simp only [Act.put, List.setIfInBounds_toArray, List.set_cons_zero, List.set_cons_succ]
      refine wpAnyH_take (i := 10) (oi := { dst := some 183, op := Op.move (Operand.tmp 20), type := 3, pos := _, after := #[], guard := none }) (v := .int .i64 (q : Int)) rfl (by kernel_rfl) (by kernel_rfl) (by kernel_rfl) (fun _ _ _ h => hPn _ _ _ _ _ h) (Or.inl ⟨by rfl, fun W hSW => by go_simp⟩) (by assumption) ?_
      try simp only [Act.put, List.setIfInBounds_toArray, List.set_cons_zero, List.set_cons_succ]
      refine wpAnyH_take (i := 11) (oi := { dst := some 184, op := Op.build 47 #[(0, Operand.tmp 180), (1, Operand.tmp 182), (2, Operand.tmp 183)], type := 47, pos := _, after := #[{ on := 7, ground := Ground.data }, { on := 9, ground := Ground.data }, { on := 10, ground := Ground.data }], guard := none }) (v := .agg #[.int .i64 a, .int .i64 b, .int .i64 (q : Int)]) rfl (by kernel_rfl) (by kernel_rfl) (by kernel_rfl) (fun _ _ _ h => hPn _ _ _ _ _ h) (Or.inl ⟨by rfl, fun W hSW => by go_simp⟩) (by assumption) ?_
      try simp only [Act.put, List.setIfInBounds_toArray, List.set_cons_zero, List.set_cons_succ]
      refine wpAnyH_ready (rs := [5, 12]) (by kernel_rfl) (by simp) ?_
      refine (AllReadyH.cons (o := { dst := some 178, op := Op.load 43 (Operand.tmp 177), type := 43, pos := _, after := #[{ on := 4, ground := Ground.data }], guard := none }) rfl (fun K hK => ?_) (AllReadyH.cons (o := { dst := some 185, op := Op.buildSlice 43 1 #[(0, Operand.tmp 184)], type := 43, pos := _, after := #[{ on := 11, ground := Ground.data }], guard := none }) rfl (fun K hK => ?_) AllReadyH.nil))
      · go_simp
        refine hK.out _ _ (by exact hHeld) (fun hHeld => ?_)
        clear hK K
        try simp only [Act.put, List.setIfInBounds_toArray, List.set_cons_zero, List.set_cons_succ]
        refine wpAnyH_ready (rs := [12]) (by kernel_rfl) (by simp) ?_
        refine (AllReadyH.cons (o := { dst := some 185, op := Op.buildSlice 43 1 #[(0, Operand.tmp 184)], type := 43, pos := _, after := #[{ on := 11, ground := Ground.data }], guard := none }) rfl (fun K hK => ?_) AllReadyH.nil)
        go_simp
        refine hK.out _ _ (by go_keep) (fun hHeld => ?_)
        clear hK K
        try simp only [Act.put, List.setIfInBounds_toArray, List.set_cons_zero, List.set_cons_succ]
        refine wpAnyH_ready (rs := [13]) (by kernel_rfl) (by simp) ?_
        refine (AllReadyH.cons (o := { dst := some 186, op := Op.call { callee := Callee.builtin Builtin.append, args := #[Operand.tmp 178, Operand.tmp 185], argTypes := #[43, 43] }, type := 43, pos := _, after := #[{ on := 5, ground := Ground.data }, { on := 12, ground := Ground.data }], guard := none }) rfl (fun K hK => ?_) AllReadyH.nil)
        refine step_wait (w0 := w3.drew) (v0 := w) (k := k) (s := up s i 1) (r := r) (s2 := s.set i x1) (r2 := r) (M := q) (KK := q + 1) (xv := .slice xa xn xc) (pb := pb) (by rfl) (.tmp 178) (.tmp 185) (by rfl) (by rfl) (by rfl) (by rfl) (by exact HJ3) (by omega) (by exact Hid.mk'' (HU3.out.quiet (Tame.refl _ _ _).drew)) (by exact HBp3) ?_
        intro ya yc w4 HI4 HU4 HB4 fw4 cw4
        refine hK.out _ _ (by exact ⟨HB4.out.cell 1, HB4.out.cell 2⟩) (fun hHeld => ?_)
        clear hK K
        try simp only [Act.put, List.setIfInBounds_toArray, List.set_cons_zero, List.set_cons_succ]
        refine wpAnyH_take (i := 14) (oi := { dst := some 187, op := Op.indexAddr 50 (Operand.tmp 173) (Operand.tmp 174), type := 0, pos := _, after := #[{ on := 0, ground := Ground.data }, { on := 1, ground := Ground.data }, { on := 0, ground := Ground.phase }, { on := 1, ground := Ground.phase }, { on := 2, ground := Ground.phase }, { on := 3, ground := Ground.phase }, { on := 4, ground := Ground.phase }, { on := 5, ground := Ground.phase }, { on := 6, ground := Ground.phase }, { on := 7, ground := Ground.phase }, { on := 8, ground := Ground.phase }, { on := 9, ground := Ground.phase }, { on := 10, ground := Ground.phase }, { on := 11, ground := Ground.phase }, { on := 12, ground := Ground.phase }, { on := 13, ground := Ground.phase }], guard := none }) (v := .pointer (some ⟨k.wtb, j, none⟩)) rfl (by kernel_rfl) (by kernel_rfl) (by kernel_rfl) (fun _ _ _ h => hPn _ _ _ _ _ h) (Or.inl ⟨by rfl, fun W hSW => by go_simp⟩) (by assumption) ?_
        try simp only [Act.put, List.setIfInBounds_toArray, List.set_cons_zero, List.set_cons_succ]
        refine wpAnyH_ready (rs := [15]) (by kernel_rfl) (by simp) ?_
        refine (AllReadyH.cons (o := { dst := none, op := Op.store 43 (Operand.tmp 187) (Operand.tmp 186), type := 0, pos := _, after := #[{ on := 14, ground := Ground.data }, { on := 13, ground := Ground.data }, { on := 13, ground := Ground.chain }, { on := 0, ground := Ground.phase }, { on := 1, ground := Ground.phase }, { on := 2, ground := Ground.phase }, { on := 3, ground := Ground.phase }, { on := 4, ground := Ground.phase }, { on := 5, ground := Ground.phase }, { on := 6, ground := Ground.phase }, { on := 7, ground := Ground.phase }, { on := 8, ground := Ground.phase }, { on := 9, ground := Ground.phase }, { on := 10, ground := Ground.phase }, { on := 11, ground := Ground.phase }, { on := 12, ground := Ground.phase }, { on := 13, ground := Ground.phase }], guard := none }) rfl (fun K hK => ?_) AllReadyH.nil)
        go_simp
        refine hK.out _ _ (by exact ⟨((HB4.out.kept (Kept.one _ _ _ _) hpw)).cell 1, ((HB4.out.kept (Kept.one _ _ _ _) hpw)).cell 2⟩) (fun hHeld => ?_)
        clear hK K
        try simp only [Act.put, List.setIfInBounds_toArray, List.set_cons_zero, List.set_cons_succ]
        refine wpAnyH_done (by kernel_rfl) ?_ _
        have HU5 := Hid.mk'' (HU4.out.setW (K' := q + 1) j (by rw [HIds.out.1, ← HNn.out]; exact hltj) (.slice ya (wm + 1) yc) (wm + 1) HI4.out (by omega) (Nat.le_refl _))
        go_wp2_with fail
        go_meet
        refine ⟨_, _, _, rfl, HNX.out _ _ _ _ (show _ = ((up s i 1), r) by simp [nxt, HPa.out, HPb.out]) ?_⟩
        have h := HU5.out
        rw [← HX1.out] at h; exact h.mono (by omega) (by omega)
      · go_simp
        refine hK.out _ _ (by go_keep) (fun hHeld => ?_)
        clear hK K
        try simp only [Act.put, List.setIfInBounds_toArray, List.set_cons_zero, List.set_cons_succ]
        refine wpAnyH_ready (rs := [5]) (by kernel_rfl) (by simp) ?_
        refine (AllReadyH.cons (o := { dst := some 178, op := Op.load 43 (Operand.tmp 177), type := 43, pos := _, after := #[{ on := 4, ground := Ground.data }], guard := none }) rfl (fun K hK => ?_) AllReadyH.nil)
        go_simp
        refine hK.out _ _ (by exact hHeld) (fun hHeld => ?_)
        clear hK K
        try simp only [Act.put, List.setIfInBounds_toArray, List.set_cons_zero, List.set_cons_succ]
        refine wpAnyH_ready (rs := [13]) (by kernel_rfl) (by simp) ?_
        refine (AllReadyH.cons (o := { dst := some 186, op := Op.call { callee := Callee.builtin Builtin.append, args := #[Operand.tmp 178, Operand.tmp 185], argTypes := #[43, 43] }, type := 43, pos := _, after := #[{ on := 5, ground := Ground.data }, { on := 12, ground := Ground.data }], guard := none }) rfl (fun K hK => ?_) AllReadyH.nil)
        refine step_wait (w0 := w3.drew) (v0 := w) (k := k) (s := up s i 1) (r := r) (s2 := s.set i x1) (r2 := r) (M := q) (KK := q + 1) (xv := .slice xa xn xc) (pb := pb) (by rfl) (.tmp 178) (.tmp 185) (by rfl) (by rfl) (by rfl) (by rfl) (by exact HJ3) (by omega) (by exact Hid.mk'' (HU3.out.quiet (Tame.refl _ _ _).drew)) (by exact HBp3) ?_
        intro ya yc w4 HI4 HU4 HB4 fw4 cw4
        refine hK.out _ _ (by exact ⟨HB4.out.cell 1, HB4.out.cell 2⟩) (fun hHeld => ?_)
        clear hK K
        try simp only [Act.put, List.setIfInBounds_toArray, List.set_cons_zero, List.set_cons_succ]
        refine wpAnyH_take (i := 14) (oi := { dst := some 187, op := Op.indexAddr 50 (Operand.tmp 173) (Operand.tmp 174), type := 0, pos := _, after := #[{ on := 0, ground := Ground.data }, { on := 1, ground := Ground.data }, { on := 0, ground := Ground.phase }, { on := 1, ground := Ground.phase }, { on := 2, ground := Ground.phase }, { on := 3, ground := Ground.phase }, { on := 4, ground := Ground.phase }, { on := 5, ground := Ground.phase }, { on := 6, ground := Ground.phase }, { on := 7, ground := Ground.phase }, { on := 8, ground := Ground.phase }, { on := 9, ground := Ground.phase }, { on := 10, ground := Ground.phase }, { on := 11, ground := Ground.phase }, { on := 12, ground := Ground.phase }, { on := 13, ground := Ground.phase }], guard := none }) (v := .pointer (some ⟨k.wtb, j, none⟩)) rfl (by kernel_rfl) (by kernel_rfl) (by kernel_rfl) (fun _ _ _ h => hPn _ _ _ _ _ h) (Or.inl ⟨by rfl, fun W hSW => by go_simp⟩) (by assumption) ?_
        try simp only [Act.put, List.setIfInBounds_toArray, List.set_cons_zero, List.set_cons_succ]
        refine wpAnyH_ready (rs := [15]) (by kernel_rfl) (by simp) ?_
        refine (AllReadyH.cons (o := { dst := none, op := Op.store 43 (Operand.tmp 187) (Operand.tmp 186), type := 0, pos := _, after := #[{ on := 14, ground := Ground.data }, { on := 13, ground := Ground.data }, { on := 13, ground := Ground.chain }, { on := 0, ground := Ground.phase }, { on := 1, ground := Ground.phase }, { on := 2, ground := Ground.phase }, { on := 3, ground := Ground.phase }, { on := 4, ground := Ground.phase }, { on := 5, ground := Ground.phase }, { on := 6, ground := Ground.phase }, { on := 7, ground := Ground.phase }, { on := 8, ground := Ground.phase }, { on := 9, ground := Ground.phase }, { on := 10, ground := Ground.phase }, { on := 11, ground := Ground.phase }, { on := 12, ground := Ground.phase }, { on := 13, ground := Ground.phase }], guard := none }) rfl (fun K hK => ?_) AllReadyH.nil)
        go_simp
        refine hK.out _ _ (by exact ⟨((HB4.out.kept (Kept.one _ _ _ _) hpw)).cell 1, ((HB4.out.kept (Kept.one _ _ _ _) hpw)).cell 2⟩) (fun hHeld => ?_)
        clear hK K
        try simp only [Act.put, List.setIfInBounds_toArray, List.set_cons_zero, List.set_cons_succ]
        refine wpAnyH_done (by kernel_rfl) ?_ _
        have HU5 := Hid.mk'' (HU4.out.setW (K' := q + 1) j (by rw [HIds.out.1, ← HNn.out]; exact hltj) (.slice ya (wm + 1) yc) (wm + 1) HI4.out (by omega) (Nat.le_refl _))
        go_wp2_with fail
        go_meet
        refine ⟨_, _, _, rfl, HNX.out _ _ _ _ (show _ = ((up s i 1), r) by simp [nxt, HPa.out, HPb.out]) ?_⟩
        have h := HU5.out
        rw [← HX1.out] at h; exact h.mono (by omega) (by omega)
end Go.Proofs.Qxb6003861aFmt
