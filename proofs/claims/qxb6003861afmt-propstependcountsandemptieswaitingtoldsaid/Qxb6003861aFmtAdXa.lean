import Derived.Test.Qxb6003861aFmtAdX
namespace Go.Proofs.Qxb6003861aFmt
open Go.RowKit
set_option linter.unusedVariables false
set_option linter.unusedSimpArgs false
variable {B : Nat}

set_option maxRecDepth 100000 in
set_option maxHeartbeats 8000000 in
theorem sw_k0 (w : World) (k : RC) (ids tape : List Int) (limit : Int) (ops : List DO) (n q : Nat) (a b rt out inn : Int) (xa : Option Addr) (xn xc pb : Nat) (W1 : World) (s r : List Int) (J K' : Act → World → Prop) (Q' : Exit → Act → World → Prop)
    (t0 t1 t2 t3 t4 t5 t6 t7 t8 t10 t11 t12 t13 t22 t23 t24 t25 t26 t27 t28 t29 t30 t31 t32 t33 t34 t35 t36 t37 t38 t39 t40 t41 t42 t43 t44 t45 t46 t47 t48 t49 t50 t51 t52 t53 t54 t55 t56 t57 t58 t59 t60 t61 t62 t63 t64 t65 t66 t67 t68 t69 t70 t71 t72 t73 t74 t75 t76 t77 t78 t79 t80 t81 t82 t83 t84 t85 t86 t87 t88 t89 t90 t91 t92 t93 t94 t96 t97 t98 t99 t100 t101 t102 t103 t104 t105 t106 t107 t108 t109 t110 t111 t112 t113 t114 t115 t116 t117 t118 t119 t120 t121 t122 t123 t124 t125 t126 t127 t128 t129 t130 t131 t132 t133 t134 t135 t136 t137 t138 t139 t140 t141 t142 t143 t144 t145 t146 t147 t148 t149 t150 t151 t152 t153 t154 t155 t156 t157 t158 t159 t160 t161 t162 t163 t164 t165 t166 t167 t168 t169 t170 t171 t172 t173 t174 t175 t176 t177 t178 t179 t180 t181 t182 t183 t184 t185 t186 t187 t188 t189 t190 t191 t192 t193 t194 t195 t196 t197 t198 t199 t200 t201 t202 t203 t204 t205 t206 t207 t208 t209 t210 t211 t212 t213 t214 t215 t216 t217 t218 t219 t220 t221 t222 t223 t224 t225 t226 t227 t228 t229 t230 t231 t232 t233 t234 t235 t236 t237 t238 t239 t240 t241 t242 t243 t244 t245 t246 t247 t248 t249 t250 t251 t252 t253 t254 t255 t256 t257 t258 t259 t260 t261 t262 t263 t264 t265 t266 t267 t268 t269 t270 t271 t272 t273 t274 t275 t276 t277 t278 t279 t280 t281 t282 t283 t284 t285 t286 t287 t288 t289 t290 t291 t292 t293 t294 t295 t296 t297 t298 t299 t300 t301 t302 t303 t304 t305 t306 t307 t308 t309 t310 t311 t312 t313 t314 t315 t316 t317 t318 t319 t320 t321 t322 t323 t324 t325 t326 t327 t328 t329 t330 t331 t332 t333 t334 t335 t336 t337 t338 t339 t340 t341 t342 t343 t344 t345 t346 t347 t348 t349 t350 t351 t352 t353 t354 t355 t356 t357 t358 t359 t360 t361 t362 t363 t364 t365 t366 t367 t368 t369 t370 t371 t372 t373 t374 t375 t376 t377 t378 t379 t380 t381 t382 t383 t384 t385 : Value)
    (hn64 : n ≤ 64) (hq256 : q < 256) (HNn : Hid (n = ids.length)) (HIds : Hid (k.c.ids = ids ∧ k.c.limit = limit ∧ k.tp = tape)) (Hg : Hid (good ids ⟨0, a, b, rt, out, inn⟩)) (hsl : s.length = n) (hrl : r.length = n)
    (HU : Hid (RU B w W1 k s r s r q q (.slice xa xn xc))) (HBp : Hid (Blk W1 pb 36 #[.int .i64 0, .int .i64 a, .int .i64 b, .int .i64 rt, .int .i64 out, .int .i64 inn]))
    (HNX : Hid (∀ (W' : World) (s' r' : List Int) (xv : Value), nxt ids (s, r) ⟨0, a, b, rt, out, inn⟩ = (s', r') → RU B w W' k s' r' s' r' (q + 1) (q + 1) xv → RQ B w W' k ids ops (q + 1) xv))
    (hJ : ∀ (a' : Act) (w' : World), (∃ u15 u22 u23 u24 u25 u26 u27 u28 u29 u30 u31 u32 u84 u85 u86 u87 u88 u89 u90 u91 u92 u93 u94 u95 u96 u97 u98 u99 u100 u101 u102 u103 u104 u105 u106 u107 u108 u109 u110 u111 u112 u113 u114 u115 u116 u117 u118 u119 u120 u121 u122 u123 u124 u125 u126 u127 u128 u129 u130 u131 u132 u133 u134 u135 u136 u137 u138 u139 u140 u141 u142 u143 u144 u145 u146 u147 u148 u149 u150 u151 u152 u153 u154 u155 u156 u157 u158 u159 u160 u161 u162 u163 u164 u165 u166 u167 u168 u169 u170 u171 u172 u173 u174 u175 u176 u177 u178 u179 u180 u181 u182 u183 u184 u185 u186 u187 u188 u189 u190 u191 u192 u193 u194 u195 u196 u197 u198 u199 u200 u201 u202 u203 u204 u205 u206 u207 u208 u209 u210 u211 u212 u213 u214 u215 u216 u217 u218 u219 u220 u221 u222 u223 u224 u225 u226 u227 u228 u229 u230 u231 u232 u233 u234 u235 u236 u237 u238 u239 u240 u241 u242 u243 u244 u245 u246 u247 u248 u249 u250 u251 u252 u253, (∃ (ya : Option Addr) (yn yc : Nat), u15 = .slice ya yn yc ∧ Hid (RQ B w w' k ids ops (q + 1) (.slice ya yn yc))) ∧ a' = { tmps := #[t0, t1, t2, t3, t4, t5, t6, t7, t8, .slice k.c.cao n k.c.ccap, t10, t11, t12, t13, .pointer (some ⟨k.c.sb, 0, none⟩), u15, .slice (some ⟨k.msb, 0, none⟩) n n, .slice (some ⟨k.mrb, 0, none⟩) n n, .slice (some ⟨k.wtb, 0, none⟩) n n, .pointer (some ⟨k.rsb, 0, none⟩), .int .i64 (q : Int), .pointer (some ⟨pb, 0, none⟩), u22, u23, u24, u25, u26, u27, u28, u29, u30, u31, u32, t33, t34, t35, t36, t37, t38, t39, t40, t41, t42, t43, t44, t45, t46, t47, t48, t49, t50, t51, t52, t53, t54, t55, t56, t57, t58, t59, t60, t61, t62, t63, t64, t65, t66, t67, t68, t69, t70, t71, t72, t73, t74, t75, t76, t77, t78, t79, t80, t81, t82, t83, u84, u85, u86, u87, u88, u89, u90, u91, u92, u93, u94, u95, u96, u97, u98, u99, u100, u101, u102, u103, u104, u105, u106, u107, u108, u109, u110, u111, u112, u113, u114, u115, u116, u117, u118, u119, u120, u121, u122, u123, u124, u125, u126, u127, u128, u129, u130, u131, u132, u133, u134, u135, u136, u137, u138, u139, u140, u141, u142, u143, u144, u145, u146, u147, u148, u149, u150, u151, u152, u153, u154, u155, u156, u157, u158, u159, u160, u161, u162, u163, u164, u165, u166, u167, u168, u169, u170, u171, u172, u173, u174, u175, u176, u177, u178, u179, u180, u181, u182, u183, u184, u185, u186, u187, u188, u189, u190, u191, u192, u193, u194, u195, u196, u197, u198, u199, u200, u201, u202, u203, u204, u205, u206, u207, u208, u209, u210, u211, u212, u213, u214, u215, u216, u217, u218, u219, u220, u221, u222, u223, u224, u225, u226, u227, u228, u229, u230, u231, u232, u233, u234, u235, u236, u237, u238, u239, u240, u241, u242, u243, u244, u245, u246, u247, u248, u249, u250, u251, u252, u253, t254, t255, t256, t257, t258, t259, t260, t261, t262, t263, t264, t265, t266, t267, t268, t269, t270, t271, t272, t273, t274, t275, t276, t277, t278, t279, t280, t281, t282, t283, t284, t285, t286, t287, t288, t289, t290, t291, t292, t293, t294, t295, t296, t297, t298, t299, t300, t301, t302, t303, t304, t305, t306, t307, t308, t309, t310, t311, t312, t313, t314, t315, t316, t317, t318, t319, t320, t321, t322, t323, t324, t325, t326, t327, t328, t329, t330, t331, t332, t333, t334, t335, t336, t337, t338, t339, t340, t341, t342, t343, t344, t345, t346, t347, t348, t349, t350, t351, t352, t353, t354, t355, t356, t357, t358, t359, t360, t361, t362, t363, t364, t365, t366, t367, t368, t369, t370, t371, t372, t373, t374, t375, t376, t377, t378, t379, t380, t381, t382, t383, t384, t385], defers := [] }) → J a' w')
    (hM : ∀ (a' : Act) (w' : World), Met J a' w' → K' a' w') (hPn : ∀ (c : _) (a1 : Act) (d : Option Tmp) (v : Value) (w' : World), Q' (Exit.panic c) (a1.put d v) w' → Q' (Exit.panic c) a1 w') :
    Code.wp Tryf.prog (sw7 Tryf.f7) (Exit.then K' Q') { tmps := #[t0, t1, t2, t3, t4, t5, t6, t7, t8, .slice k.c.cao n k.c.ccap, t10, t11, t12, t13, .pointer (some ⟨k.c.sb, 0, none⟩), .slice xa xn xc, .slice (some ⟨k.msb, 0, none⟩) n n, .slice (some ⟨k.mrb, 0, none⟩) n n, .slice (some ⟨k.wtb, 0, none⟩) n n, .pointer (some ⟨k.rsb, 0, none⟩), .int .i64 (q : Int), .pointer (some ⟨pb, 0, none⟩), t22, t23, t24, t25, t26, t27, t28, t29, t30, t31, t32, t33, t34, t35, t36, t37, t38, t39, t40, t41, t42, t43, t44, t45, t46, t47, t48, t49, t50, t51, t52, t53, t54, t55, t56, t57, t58, t59, t60, t61, t62, t63, t64, t65, t66, t67, t68, t69, t70, t71, t72, t73, t74, t75, t76, t77, t78, t79, t80, t81, t82, t83, t84, t85, t86, t87, t88, t89, t90, t91, t92, t93, t94, .int .i64 (0), t96, t97, t98, t99, t100, t101, t102, t103, t104, t105, t106, t107, t108, t109, t110, t111, t112, t113, t114, t115, t116, t117, t118, t119, t120, t121, t122, t123, t124, t125, t126, t127, t128, t129, t130, t131, t132, t133, t134, t135, t136, t137, t138, t139, t140, t141, t142, t143, t144, t145, t146, t147, t148, t149, t150, t151, t152, t153, t154, t155, t156, t157, t158, t159, t160, t161, t162, t163, t164, t165, t166, t167, t168, t169, t170, t171, t172, t173, t174, t175, t176, t177, t178, t179, t180, t181, t182, t183, t184, t185, t186, t187, t188, t189, t190, t191, t192, t193, t194, t195, t196, t197, t198, t199, t200, t201, t202, t203, t204, t205, t206, t207, t208, t209, t210, t211, t212, t213, t214, t215, t216, t217, t218, t219, t220, t221, t222, t223, t224, t225, t226, t227, t228, t229, t230, t231, t232, t233, t234, t235, t236, t237, t238, t239, t240, t241, t242, t243, t244, t245, t246, t247, t248, t249, t250, t251, t252, t253, t254, t255, t256, t257, t258, t259, t260, t261, t262, t263, t264, t265, t266, t267, t268, t269, t270, t271, t272, t273, t274, t275, t276, t277, t278, t279, t280, t281, t282, t283, t284, t285, t286, t287, t288, t289, t290, t291, t292, t293, t294, t295, t296, t297, t298, t299, t300, t301, t302, t303, t304, t305, t306, t307, t308, t309, t310, t311, t312, t313, t314, t315, t316, t317, t318, t319, t320, t321, t322, t323, t324, t325, t326, t327, t328, t329, t330, t331, t332, t333, t334, t335, t336, t337, t338, t339, t340, t341, t342, t343, t344, t345, t346, t347, t348, t349, t350, t351, t352, t353, t354, t355, t356, t357, t358, t359, t360, t361, t362, t363, t364, t365, t366, t367, t368, t369, t370, t371, t372, t373, t374, t375, t376, t377, t378, t379, t380, t381, t382, t383, t384, t385], defers := [] } W1 := by
  have HPl : Hid (∀ (W : World) (s r s2 r2 : List Int) (M K : Nat) (xv : Value) (v : Int), RU B w W k s r s2 r2 M K xv → Calls Tryf.prog 8 #[.slice k.c.cao n k.c.ccap, .int .i64 v] W fun e w' => e = .returned (.tuple #[.int .i64 ((pl ids v).getD 0 : Nat), .bool (pl ids v).isSome]) ∧ w' = W) := by
    intro W s r s2 r2 M K xv v h
    have h2 := h.place v
    rw [HIds.out.1, ← HNn.out] at h2
    exact h2
  have HZz : Hid (∀ (W : World) (s r s2 r2 : List Int) (M K : Nat) (xv : Value), RU B w W k s r s2 r2 M K xv → Calls Tryf.prog 17 #[.pointer (some ⟨k.c.sb, 0, none⟩)] W fun e w' => e = .returned (.slice k.c.so n k.c.sc) ∧ w' = W) := by
    intro W s r s2 r2 M K xv h
    have h2 := h.zz
    rw [HIds.out.1, ← HNn.out] at h2
    exact h2
  have HSm : Hid (∀ (W : World) (s r s2 r2 : List Int) (M K : Nat) (xv : Value), RU B w W k s r s2 r2 M K xv → Calls Tryf.prog 16 #[.slice k.c.so n k.c.sc, .slice (some ⟨k.msb, 0, none⟩) n n] W (Someb W)) := by
    intro W s r s2 r2 M K xv h
    have h2 := h.same
    rw [HIds.out.1, ← HNn.out] at h2
    exact h2
  have hxn : xn ≤ q := HU.out.xi.1
  dsimp only [sw7, for7, body7, Tryf.f7, sq1, sq2, bk, lp, Option.getD]
  obtain ⟨i, hpi⟩ : ∃ i, pl ids a = some i := Option.isSome_iff_exists.1 (by { rcases Hg.out with h | h | h; exact h.2; exact absurd h.1 (show ¬ (0 : Int) = 1 by decide); exact absurd h.1 (show ¬ (0 : Int) = 2 by decide) })
  have HPa := Hid.mk'' hpi
  have hlti : i < n := by rw [HNn.out]; exact pl_lt hpi
  clear hpi
  have ji : (i : Int) < (n : Int) := by omega
  have Hcall : Hid (Calls Tryf.prog 14 #[.pointer (some ⟨k.c.sb, 0, none⟩), .int .i64 a, .int .i64 out, .int .i64 inn] W1 (Stepped B W1 k.c (up s i out) (up r i inn) q q)) := count_any W1 k.c s r q q a out inn i HU.out.st (by rw [HIds.out.1]; exact HPa.out)
  have p1 : W1.cell? ⟨pb, 1, none⟩ = some (.int .i64 a) := HBp.out.cell 1
  have p4 : W1.cell? ⟨pb, 4, none⟩ = some (.int .i64 out) := HBp.out.cell 4
  have p5 : W1.cell? ⟨pb, 5, none⟩ = some (.int .i64 inn) := HBp.out.cell 5
  go_upto_region 26 with (first | (go_at_call 14; refine Hcall.out.mono ?_; rintro e w2 ⟨rfl, h1, h2⟩; have HU2 := Hid.mk'' (HU.out.step h1 h2 (by omega) (by omega)); have HBp2 := Hid.mk'' (HU.out.op HBp.out h2); clear h1 h2; dsimp only) | fail)
  clear p1 p4 p5 Hcall HU HBp
  have p1 : w2.cell? ⟨pb, 1, none⟩ = some (.int .i64 a) := HBp2.out.cell 1
  have p4 : w2.cell? ⟨pb, 4, none⟩ = some (.int .i64 out) := HBp2.out.cell 4
  obtain ⟨z1, hz1⟩ : ∃ z, z = s.getD i 0 := ⟨_, rfl⟩
  have qq1 : w2.cell? ⟨k.msb, i, none⟩ = some (.int .i64 z1) := by rw [hz1]; exact HU2.out.cs (by omega)
  have ff1 := HU2.out.ms.frozen
  obtain ⟨x1, hx1⟩ : ∃ x, x = wrap64 (z1 + out) := ⟨_, rfl⟩
  have ex1 : IntKind.i64.wrap (z1 + out) = x1 := by rw [hx1]; exact IntWalk.i64_left _
  have ew1 : wrap64 (z1 + out) = x1 := hx1.symm
  have HX1 : Hid (up s i out = s.set i x1) := by rw [hx1, hz1]; rfl
  have hps1 : ¬ pb = k.msb := (HU2.out.op3 HBp2.out).1
  have hpt1 : ¬ k.msb = pb := fun e => hps1 e.symm
  clear hz1 hx1
  go_upto_region 27 with (first | (go_at_call 8; refine (HPl.out _ _ _ _ _ _ _ _ a HU2.out).mono ?_; rintro e w9 ⟨rfl, hw9⟩; rw [hw9]; clear hw9 w9; rw [HPa.out]; simp only [Option.getD_some, Option.isSome_some, Option.getD_none, Option.isSome_none]) | fail)
  go_region
  clear p1 p4
  obtain ⟨w3, hw3⟩ : ∃ V, V = (w2.setCell ⟨k.msb, i, none⟩ (.int .i64 x1)).drew := ⟨_, rfl⟩
  have HU3 : Hid (RU B w w3 k (up s i out) (up r i inn) (s.set i x1) r q q (.slice xa xn xc)) := by rw [hw3]; exact (HU2.out.setS i x1).quiet (Tame.refl _ _ _).drew
  have HBp3 := Hid.mk'' (show Blk w3 pb 36 _ by rw [hw3]; exact (HBp2.out.kept (Kept.one _ _ _ _) hps1).drew)
  rw [← hw3]
  clear hw3 qq1 ff1 ex1 ew1 hps1 hpt1 HU2 HBp2
  have p5 : w3.cell? ⟨pb, 5, none⟩ = some (.int .i64 inn) := HBp3.out.cell 5
  obtain ⟨z2, hz2⟩ : ∃ z, z = r.getD i 0 := ⟨_, rfl⟩
  have qq2 : w3.cell? ⟨k.mrb, i, none⟩ = some (.int .i64 z2) := by rw [hz2]; exact HU3.out.cr (by omega)
  have ff2 := HU3.out.mr.frozen
  obtain ⟨x2, hx2⟩ : ∃ x, x = wrap64 (z2 + inn) := ⟨_, rfl⟩
  have ex2 : IntKind.i64.wrap (z2 + inn) = x2 := by rw [hx2]; exact IntWalk.i64_left _
  have ew2 : wrap64 (z2 + inn) = x2 := hx2.symm
  have HX2 : Hid (up r i inn = r.set i x2) := by rw [hx2, hz2]; rfl
  have hps2 : ¬ pb = k.mrb := (HU3.out.op3 HBp3.out).2.1
  have hpt2 : ¬ k.mrb = pb := fun e => hps2 e.symm
  clear hz2 hx2
  go_upto_region 28 with fail
  go_region
  clear p5
  obtain ⟨w4, hw4⟩ : ∃ V, V = (w3.setCell ⟨k.mrb, i, none⟩ (.int .i64 x2)).drew := ⟨_, rfl⟩
  have HU4 : Hid (RU B w w4 k (up s i out) (up r i inn) (s.set i x1) (r.set i x2) q q (.slice xa xn xc)) := by rw [hw4]; exact (HU3.out.setR i x2).quiet (Tame.refl _ _ _).drew
  have HBp4 := Hid.mk'' (show Blk w4 pb 36 _ by rw [hw4]; exact (HBp3.out.kept (Kept.one _ _ _ _) hps2).drew)
  rw [← hw4]
  clear hw4 qq2 ff2 ex2 ew2 hps2 hpt2 HU3 HBp3
  go_wp2_with fail
  go_meet
  refine ⟨_, _, _, rfl, HNX.out _ _ _ _ (show _ = (up s i out, up r i inn) by simp [nxt, HPa.out]) ?_⟩
  have h := HU4.out
  rw [← HX1.out, ← HX2.out] at h; exact h.mono (by omega) (by omega)

set_option maxRecDepth 100000 in
set_option maxHeartbeats 8000000 in
theorem sw_k2 (w : World) (k : RC) (ids tape : List Int) (limit : Int) (ops : List DO) (n q : Nat) (a b rt out inn : Int) (xa : Option Addr) (xn xc pb : Nat) (W1 : World) (s r : List Int) (J K' : Act → World → Prop) (Q' : Exit → Act → World → Prop)
    (t0 t1 t2 t3 t4 t5 t6 t7 t8 t10 t11 t12 t13 t22 t23 t24 t25 t26 t27 t28 t29 t30 t31 t32 t33 t34 t35 t36 t37 t38 t39 t40 t41 t42 t43 t44 t45 t46 t47 t48 t49 t50 t51 t52 t53 t54 t55 t56 t57 t58 t59 t60 t61 t62 t63 t64 t65 t66 t67 t68 t69 t70 t71 t72 t73 t74 t75 t76 t77 t78 t79 t80 t81 t82 t83 t84 t85 t86 t87 t88 t89 t90 t91 t92 t93 t94 t96 t97 t98 t99 t100 t101 t102 t103 t104 t105 t106 t107 t108 t109 t110 t111 t112 t113 t114 t115 t116 t117 t118 t119 t120 t121 t122 t123 t124 t125 t126 t127 t128 t129 t130 t131 t132 t133 t134 t135 t136 t137 t138 t139 t140 t141 t142 t143 t144 t145 t146 t147 t148 t149 t150 t151 t152 t153 t154 t155 t156 t157 t158 t159 t160 t161 t162 t163 t164 t165 t166 t167 t168 t169 t170 t171 t172 t173 t174 t175 t176 t177 t178 t179 t180 t181 t182 t183 t184 t185 t186 t187 t188 t189 t190 t191 t192 t193 t194 t195 t196 t197 t198 t199 t200 t201 t202 t203 t204 t205 t206 t207 t208 t209 t210 t211 t212 t213 t214 t215 t216 t217 t218 t219 t220 t221 t222 t223 t224 t225 t226 t227 t228 t229 t230 t231 t232 t233 t234 t235 t236 t237 t238 t239 t240 t241 t242 t243 t244 t245 t246 t247 t248 t249 t250 t251 t252 t253 t254 t255 t256 t257 t258 t259 t260 t261 t262 t263 t264 t265 t266 t267 t268 t269 t270 t271 t272 t273 t274 t275 t276 t277 t278 t279 t280 t281 t282 t283 t284 t285 t286 t287 t288 t289 t290 t291 t292 t293 t294 t295 t296 t297 t298 t299 t300 t301 t302 t303 t304 t305 t306 t307 t308 t309 t310 t311 t312 t313 t314 t315 t316 t317 t318 t319 t320 t321 t322 t323 t324 t325 t326 t327 t328 t329 t330 t331 t332 t333 t334 t335 t336 t337 t338 t339 t340 t341 t342 t343 t344 t345 t346 t347 t348 t349 t350 t351 t352 t353 t354 t355 t356 t357 t358 t359 t360 t361 t362 t363 t364 t365 t366 t367 t368 t369 t370 t371 t372 t373 t374 t375 t376 t377 t378 t379 t380 t381 t382 t383 t384 t385 : Value)
    (hn64 : n ≤ 64) (hq256 : q < 256) (HNn : Hid (n = ids.length)) (HIds : Hid (k.c.ids = ids ∧ k.c.limit = limit ∧ k.tp = tape)) (Hg : Hid (good ids ⟨2, a, b, rt, out, inn⟩)) (hsl : s.length = n) (hrl : r.length = n)
    (HU : Hid (RU B w W1 k s r s r q q (.slice xa xn xc))) (HBp : Hid (Blk W1 pb 36 #[.int .i64 2, .int .i64 a, .int .i64 b, .int .i64 rt, .int .i64 out, .int .i64 inn]))
    (HNX : Hid (∀ (W' : World) (s' r' : List Int) (xv : Value), nxt ids (s, r) ⟨2, a, b, rt, out, inn⟩ = (s', r') → RU B w W' k s' r' s' r' (q + 1) (q + 1) xv → RQ B w W' k ids ops (q + 1) xv))
    (hJ : ∀ (a' : Act) (w' : World), (∃ u15 u22 u23 u24 u25 u26 u27 u28 u29 u30 u31 u32 u84 u85 u86 u87 u88 u89 u90 u91 u92 u93 u94 u95 u96 u97 u98 u99 u100 u101 u102 u103 u104 u105 u106 u107 u108 u109 u110 u111 u112 u113 u114 u115 u116 u117 u118 u119 u120 u121 u122 u123 u124 u125 u126 u127 u128 u129 u130 u131 u132 u133 u134 u135 u136 u137 u138 u139 u140 u141 u142 u143 u144 u145 u146 u147 u148 u149 u150 u151 u152 u153 u154 u155 u156 u157 u158 u159 u160 u161 u162 u163 u164 u165 u166 u167 u168 u169 u170 u171 u172 u173 u174 u175 u176 u177 u178 u179 u180 u181 u182 u183 u184 u185 u186 u187 u188 u189 u190 u191 u192 u193 u194 u195 u196 u197 u198 u199 u200 u201 u202 u203 u204 u205 u206 u207 u208 u209 u210 u211 u212 u213 u214 u215 u216 u217 u218 u219 u220 u221 u222 u223 u224 u225 u226 u227 u228 u229 u230 u231 u232 u233 u234 u235 u236 u237 u238 u239 u240 u241 u242 u243 u244 u245 u246 u247 u248 u249 u250 u251 u252 u253, (∃ (ya : Option Addr) (yn yc : Nat), u15 = .slice ya yn yc ∧ Hid (RQ B w w' k ids ops (q + 1) (.slice ya yn yc))) ∧ a' = { tmps := #[t0, t1, t2, t3, t4, t5, t6, t7, t8, .slice k.c.cao n k.c.ccap, t10, t11, t12, t13, .pointer (some ⟨k.c.sb, 0, none⟩), u15, .slice (some ⟨k.msb, 0, none⟩) n n, .slice (some ⟨k.mrb, 0, none⟩) n n, .slice (some ⟨k.wtb, 0, none⟩) n n, .pointer (some ⟨k.rsb, 0, none⟩), .int .i64 (q : Int), .pointer (some ⟨pb, 0, none⟩), u22, u23, u24, u25, u26, u27, u28, u29, u30, u31, u32, t33, t34, t35, t36, t37, t38, t39, t40, t41, t42, t43, t44, t45, t46, t47, t48, t49, t50, t51, t52, t53, t54, t55, t56, t57, t58, t59, t60, t61, t62, t63, t64, t65, t66, t67, t68, t69, t70, t71, t72, t73, t74, t75, t76, t77, t78, t79, t80, t81, t82, t83, u84, u85, u86, u87, u88, u89, u90, u91, u92, u93, u94, u95, u96, u97, u98, u99, u100, u101, u102, u103, u104, u105, u106, u107, u108, u109, u110, u111, u112, u113, u114, u115, u116, u117, u118, u119, u120, u121, u122, u123, u124, u125, u126, u127, u128, u129, u130, u131, u132, u133, u134, u135, u136, u137, u138, u139, u140, u141, u142, u143, u144, u145, u146, u147, u148, u149, u150, u151, u152, u153, u154, u155, u156, u157, u158, u159, u160, u161, u162, u163, u164, u165, u166, u167, u168, u169, u170, u171, u172, u173, u174, u175, u176, u177, u178, u179, u180, u181, u182, u183, u184, u185, u186, u187, u188, u189, u190, u191, u192, u193, u194, u195, u196, u197, u198, u199, u200, u201, u202, u203, u204, u205, u206, u207, u208, u209, u210, u211, u212, u213, u214, u215, u216, u217, u218, u219, u220, u221, u222, u223, u224, u225, u226, u227, u228, u229, u230, u231, u232, u233, u234, u235, u236, u237, u238, u239, u240, u241, u242, u243, u244, u245, u246, u247, u248, u249, u250, u251, u252, u253, t254, t255, t256, t257, t258, t259, t260, t261, t262, t263, t264, t265, t266, t267, t268, t269, t270, t271, t272, t273, t274, t275, t276, t277, t278, t279, t280, t281, t282, t283, t284, t285, t286, t287, t288, t289, t290, t291, t292, t293, t294, t295, t296, t297, t298, t299, t300, t301, t302, t303, t304, t305, t306, t307, t308, t309, t310, t311, t312, t313, t314, t315, t316, t317, t318, t319, t320, t321, t322, t323, t324, t325, t326, t327, t328, t329, t330, t331, t332, t333, t334, t335, t336, t337, t338, t339, t340, t341, t342, t343, t344, t345, t346, t347, t348, t349, t350, t351, t352, t353, t354, t355, t356, t357, t358, t359, t360, t361, t362, t363, t364, t365, t366, t367, t368, t369, t370, t371, t372, t373, t374, t375, t376, t377, t378, t379, t380, t381, t382, t383, t384, t385], defers := [] }) → J a' w')
    (hM : ∀ (a' : Act) (w' : World), Met J a' w' → K' a' w') (hPn : ∀ (c : _) (a1 : Act) (d : Option Tmp) (v : Value) (w' : World), Q' (Exit.panic c) (a1.put d v) w' → Q' (Exit.panic c) a1 w') :
    Code.wp Tryf.prog (sw7 Tryf.f7) (Exit.then K' Q') { tmps := #[t0, t1, t2, t3, t4, t5, t6, t7, t8, .slice k.c.cao n k.c.ccap, t10, t11, t12, t13, .pointer (some ⟨k.c.sb, 0, none⟩), .slice xa xn xc, .slice (some ⟨k.msb, 0, none⟩) n n, .slice (some ⟨k.mrb, 0, none⟩) n n, .slice (some ⟨k.wtb, 0, none⟩) n n, .pointer (some ⟨k.rsb, 0, none⟩), .int .i64 (q : Int), .pointer (some ⟨pb, 0, none⟩), t22, t23, t24, t25, t26, t27, t28, t29, t30, t31, t32, t33, t34, t35, t36, t37, t38, t39, t40, t41, t42, t43, t44, t45, t46, t47, t48, t49, t50, t51, t52, t53, t54, t55, t56, t57, t58, t59, t60, t61, t62, t63, t64, t65, t66, t67, t68, t69, t70, t71, t72, t73, t74, t75, t76, t77, t78, t79, t80, t81, t82, t83, t84, t85, t86, t87, t88, t89, t90, t91, t92, t93, t94, .int .i64 (2), t96, t97, t98, t99, t100, t101, t102, t103, t104, t105, t106, t107, t108, t109, t110, t111, t112, t113, t114, t115, t116, t117, t118, t119, t120, t121, t122, t123, t124, t125, t126, t127, t128, t129, t130, t131, t132, t133, t134, t135, t136, t137, t138, t139, t140, t141, t142, t143, t144, t145, t146, t147, t148, t149, t150, t151, t152, t153, t154, t155, t156, t157, t158, t159, t160, t161, t162, t163, t164, t165, t166, t167, t168, t169, t170, t171, t172, t173, t174, t175, t176, t177, t178, t179, t180, t181, t182, t183, t184, t185, t186, t187, t188, t189, t190, t191, t192, t193, t194, t195, t196, t197, t198, t199, t200, t201, t202, t203, t204, t205, t206, t207, t208, t209, t210, t211, t212, t213, t214, t215, t216, t217, t218, t219, t220, t221, t222, t223, t224, t225, t226, t227, t228, t229, t230, t231, t232, t233, t234, t235, t236, t237, t238, t239, t240, t241, t242, t243, t244, t245, t246, t247, t248, t249, t250, t251, t252, t253, t254, t255, t256, t257, t258, t259, t260, t261, t262, t263, t264, t265, t266, t267, t268, t269, t270, t271, t272, t273, t274, t275, t276, t277, t278, t279, t280, t281, t282, t283, t284, t285, t286, t287, t288, t289, t290, t291, t292, t293, t294, t295, t296, t297, t298, t299, t300, t301, t302, t303, t304, t305, t306, t307, t308, t309, t310, t311, t312, t313, t314, t315, t316, t317, t318, t319, t320, t321, t322, t323, t324, t325, t326, t327, t328, t329, t330, t331, t332, t333, t334, t335, t336, t337, t338, t339, t340, t341, t342, t343, t344, t345, t346, t347, t348, t349, t350, t351, t352, t353, t354, t355, t356, t357, t358, t359, t360, t361, t362, t363, t364, t365, t366, t367, t368, t369, t370, t371, t372, t373, t374, t375, t376, t377, t378, t379, t380, t381, t382, t383, t384, t385], defers := [] } W1 := by
  have HPl : Hid (∀ (W : World) (s r s2 r2 : List Int) (M K : Nat) (xv : Value) (v : Int), RU B w W k s r s2 r2 M K xv → Calls Tryf.prog 8 #[.slice k.c.cao n k.c.ccap, .int .i64 v] W fun e w' => e = .returned (.tuple #[.int .i64 ((pl ids v).getD 0 : Nat), .bool (pl ids v).isSome]) ∧ w' = W) := by
    intro W s r s2 r2 M K xv v h
    have h2 := h.place v
    rw [HIds.out.1, ← HNn.out] at h2
    exact h2
  have HZz : Hid (∀ (W : World) (s r s2 r2 : List Int) (M K : Nat) (xv : Value), RU B w W k s r s2 r2 M K xv → Calls Tryf.prog 17 #[.pointer (some ⟨k.c.sb, 0, none⟩)] W fun e w' => e = .returned (.slice k.c.so n k.c.sc) ∧ w' = W) := by
    intro W s r s2 r2 M K xv h
    have h2 := h.zz
    rw [HIds.out.1, ← HNn.out] at h2
    exact h2
  have HSm : Hid (∀ (W : World) (s r s2 r2 : List Int) (M K : Nat) (xv : Value), RU B w W k s r s2 r2 M K xv → Calls Tryf.prog 16 #[.slice k.c.so n k.c.sc, .slice (some ⟨k.msb, 0, none⟩) n n] W (Someb W)) := by
    intro W s r s2 r2 M K xv h
    have h2 := h.same
    rw [HIds.out.1, ← HNn.out] at h2
    exact h2
  have hxn : xn ≤ q := HU.out.xi.1
  dsimp only [sw7, for7, body7, Tryf.f7, sq1, sq2, bk, lp, Option.getD]
  obtain ⟨i, hpi⟩ : ∃ i, pl ids a = some i := Option.isSome_iff_exists.1 (by { rcases Hg.out with h | h | h; exact absurd h.1 (show ¬ (2 : Int) = 0 by decide); exact absurd h.1 (show ¬ (2 : Int) = 1 by decide); exact h.2.1 })
  have HPa := Hid.mk'' hpi
  have hlti : i < n := by rw [HNn.out]; exact pl_lt hpi
  clear hpi
  have ji : (i : Int) < (n : Int) := by omega
  obtain ⟨j, hpj⟩ : ∃ j, pl ids b = some j := Option.isSome_iff_exists.1 (by { rcases Hg.out with h | h | h; exact absurd h.1 (show ¬ (2 : Int) = 0 by decide); exact absurd h.1 (show ¬ (2 : Int) = 1 by decide); exact h.2.2 })
  have HPb := Hid.mk'' hpj
  have hltj : j < n := by rw [HNn.out]; exact pl_lt hpj
  clear hpj
  have jj : (j : Int) < (n : Int) := by omega
  have Hcall : Hid (Calls Tryf.prog 18 #[.pointer (some ⟨k.c.sb, 0, none⟩), .int .i64 a, .int .i64 b, .int .i64 q] W1 (Stepped B W1 k.c (up s i 1) (up r j 1) (q + 1) q)) := answer_any W1 k.c s r q q a b q i j HU.out.st (by omega) (by rw [HIds.out.1]; exact HPa.out) (by rw [HIds.out.1]; exact HPb.out)
  have p1 : W1.cell? ⟨pb, 1, none⟩ = some (.int .i64 a) := HBp.out.cell 1
  have p2 : W1.cell? ⟨pb, 2, none⟩ = some (.int .i64 b) := HBp.out.cell 2
  go_upto_region 46 with (first | (go_at_call 18; refine Hcall.out.mono ?_; rintro e w2 ⟨rfl, h1, h2⟩; have HU2 := Hid.mk'' (HU.out.step h1 h2 (by omega) (by omega)); have HBp2 := Hid.mk'' (HU.out.op HBp.out h2); clear h1 h2; dsimp only) | fail)
  clear p1 p2 Hcall HU HBp
  have p1 : w2.cell? ⟨pb, 1, none⟩ = some (.int .i64 a) := HBp2.out.cell 1
  have p2 : w2.cell? ⟨pb, 2, none⟩ = some (.int .i64 b) := HBp2.out.cell 2
  go_upto_region 47 with (first | (go_at_call 8; refine (HPl.out _ _ _ _ _ _ _ _ a HU2.out).mono ?_; rintro e w9 ⟨rfl, hw9⟩; rw [hw9]; clear hw9 w9; rw [HPa.out]; simp only [Option.getD_some, Option.isSome_some, Option.getD_none, Option.isSome_none]) | fail)
  go_upto_region 48 with (first | (go_at_call 8; refine (HPl.out _ _ _ _ _ _ _ _ b HU2.out).mono ?_; rintro e w9 ⟨rfl, hw9⟩; rw [hw9]; clear hw9 w9; rw [HPb.out]; simp only [Option.getD_some, Option.isSome_some, Option.getD_none, Option.isSome_none]) | fail)
  clear p1 p2
  obtain ⟨z1, hz1⟩ : ∃ z, z = s.getD i 0 := ⟨_, rfl⟩
  have qq1 : w2.cell? ⟨k.msb, i, none⟩ = some (.int .i64 z1) := by rw [hz1]; exact HU2.out.cs (by omega)
  have ff1 := HU2.out.ms.frozen
  obtain ⟨x1, hx1⟩ : ∃ x, x = wrap64 (z1 + 1) := ⟨_, rfl⟩
  have ex1 : IntKind.i64.wrap (z1 + 1) = x1 := by rw [hx1]; exact IntWalk.i64_left _
  have ew1 : wrap64 (z1 + 1) = x1 := hx1.symm
  have HX1 : Hid (up s i 1 = s.set i x1) := by rw [hx1, hz1]; rfl
  have hps1 : ¬ pb = k.msb := (HU2.out.op3 HBp2.out).1
  have hpt1 : ¬ k.msb = pb := fun e => hps1 e.symm
  clear hz1 hx1
  go_upto_region 49 with fail
  obtain ⟨w3, hw3⟩ : ∃ V, V = w2.setCell ⟨k.msb, i, none⟩ (.int .i64 x1) := ⟨_, rfl⟩
  have HU3 : Hid (RU B w w3 k (up s i 1) (up r j 1) (s.set i x1) r (q + 1) q (.slice xa xn xc)) := by rw [hw3]; exact HU2.out.setS i x1
  have HBp3 := Hid.mk'' (show Blk w3 pb 36 _ by rw [hw3]; exact HBp2.out.kept (Kept.one _ _ _ _) hps1)
  rw [← hw3]
  clear hw3 qq1 ff1 ex1 ew1 hps1 hpt1 HU2 HBp2
  obtain ⟨z2, hz2⟩ : ∃ z, z = r.getD j 0 := ⟨_, rfl⟩
  have qq2 : w3.cell? ⟨k.mrb, j, none⟩ = some (.int .i64 z2) := by rw [hz2]; exact HU3.out.cr (by omega)
  have ff2 := HU3.out.mr.frozen
  obtain ⟨x2, hx2⟩ : ∃ x, x = wrap64 (z2 + 1) := ⟨_, rfl⟩
  have ex2 : IntKind.i64.wrap (z2 + 1) = x2 := by rw [hx2]; exact IntWalk.i64_left _
  have ew2 : wrap64 (z2 + 1) = x2 := hx2.symm
  have HX2 : Hid (up r j 1 = r.set j x2) := by rw [hx2, hz2]; rfl
  have hps2 : ¬ pb = k.mrb := (HU3.out.op3 HBp3.out).2.1
  have hpt2 : ¬ k.mrb = pb := fun e => hps2 e.symm
  clear hz2 hx2
  go_upto_region 50 with fail
  obtain ⟨w4, hw4⟩ : ∃ V, V = w3.setCell ⟨k.mrb, j, none⟩ (.int .i64 x2) := ⟨_, rfl⟩
  have HU4 : Hid (RU B w w4 k (up s i 1) (up r j 1) (s.set i x1) (r.set j x2) (q + 1) q (.slice xa xn xc)) := by rw [hw4]; exact HU3.out.setR j x2
  have HBp4 := Hid.mk'' (show Blk w4 pb 36 _ by rw [hw4]; exact HBp3.out.kept (Kept.one _ _ _ _) hps2)
  rw [← hw4]
  clear hw4 qq2 ff2 ex2 ew2 hps2 hpt2 HU3 HBp3
  have p1 : w4.cell? ⟨pb, 1, none⟩ = some (.int .i64 a) := HBp4.out.cell 1
  have p2 : w4.cell? ⟨pb, 2, none⟩ = some (.int .i64 b) := HBp4.out.cell 2
  have HI : Hid (IR B 47 3 w4 (.slice xa xn xc) xn) := HU4.out.xi.2
  have HBw : Hid (B ≤ w4.heap.size) := HU4.out.st.bw
  go_wp2_with (first | (at_builtin; go_must (refine wpList_app (t := 43) rfl (.tmp 240) (.tmp 247) rfl _ _ rfl rfl (run_log w4 _ _ xn a b (q : Int) HI.out HBw.out (by omega)) ?_); intro v1 w7 h1; obtain ⟨ya, yc, rfl⟩ := h1.1.form; have HU7 := Hid.mk'' (HU4.out.exp h1.2 h1.1 (Nat.le_refl _) (by omega)); clear h1) | fail)
  go_meet
  refine ⟨_, _, _, rfl, HNX.out _ _ _ _ (show _ = (up s i 1, up r j 1) by simp [nxt, HPa.out, HPb.out]) ?_⟩
  have h := HU7.out
  rw [← HX1.out, ← HX2.out] at h; exact h.mono (by omega) (by omega)
end Go.Proofs.Qxb6003861aFmt
