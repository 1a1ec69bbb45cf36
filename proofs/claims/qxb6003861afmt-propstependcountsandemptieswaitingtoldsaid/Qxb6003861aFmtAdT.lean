import Derived.Test.Qxb6003861aFmtAdS
import Derived.BigQuiet
namespace Go.Proofs.Qxb6003861aFmt
open Go.RowKit
set_option linter.unusedVariables false
set_option linter.unusedSimpArgs false

theorem add_det (a b : Int) : ∃ ok : Bool, ∀ w, Calls Tryf.prog 9 #[.int .i64 a, .int .i64 b] w fun e w' => e = .returned (.tuple #[.int .i64 (wrap64 (a + b)), .bool ok]) ∧ w' = w := by
  obtain ⟨c, hc⟩ : ∃ c, wrap64 (a + b) = c := ⟨_, rfl⟩
  rw [hc]
  by_cases h1 : (0 : Int) < b
  · have k1 : decide ((0 : Int) < b) = true := decide_eq_true h1
    by_cases h2 : c < a
    · have k2 : decide (c < a) = true := decide_eq_true h2
      refine ⟨false, fun w => ?_⟩
      go_enter Tryf.func9, Tryf.ntmps9
      go_wp2_with fail
      refine bodyPost_ret (v := .tuple #[.int .i64 c, .bool false]) (by simp [results, Tryf.results9, go_sem, hc]) rfl ?_
      exact ⟨rfl, rfl⟩
    · have k2 : decide (c < a) = false := decide_eq_false h2
      have h3 : ¬ b < 0 := by omega
      have k3 : decide (b < 0) = false := decide_eq_false h3
      refine ⟨true, fun w => ?_⟩
      go_enter Tryf.func9, Tryf.ntmps9
      go_wp2_with fail
      refine bodyPost_ret (v := .tuple #[.int .i64 c, .bool true]) (by simp [results, Tryf.results9, go_sem, hc]) rfl ?_
      exact ⟨rfl, rfl⟩
  · have k1 : decide ((0 : Int) < b) = false := decide_eq_false h1
    by_cases h3 : b < 0
    · have k3 : decide (b < 0) = true := decide_eq_true h3
      by_cases h2 : a < c
      · have k2 : decide (a < c) = true := decide_eq_true h2
        refine ⟨false, fun w => ?_⟩
        go_enter Tryf.func9, Tryf.ntmps9
        go_wp2_with fail
        refine bodyPost_ret (v := .tuple #[.int .i64 c, .bool false]) (by simp [results, Tryf.results9, go_sem, hc]) rfl ?_
        exact ⟨rfl, rfl⟩
      · have k2 : decide (a < c) = false := decide_eq_false h2
        refine ⟨true, fun w => ?_⟩
        go_enter Tryf.func9, Tryf.ntmps9
        go_wp2_with fail
        refine bodyPost_ret (v := .tuple #[.int .i64 c, .bool true]) (by simp [results, Tryf.results9, go_sem, hc]) rfl ?_
        exact ⟨rfl, rfl⟩
    · have k3 : decide (b < 0) = false := decide_eq_false h3
      refine ⟨true, fun w => ?_⟩
      go_enter Tryf.func9, Tryf.ntmps9
      go_wp2_with fail
      refine bodyPost_ret (v := .tuple #[.int .i64 c, .bool true]) (by simp [results, Tryf.results9, go_sem, hc]) rfl ?_
      exact ⟨rfl, rfl⟩


def Premd (ids : List Int) (limit : Int) (ops : List DO) (w : World) (e : Ending) (w' : World) : Prop := ∃ b : Bool, e = .returned (.bool b) ∧ (b = true → Prem ids limit ops) ∧ Kept w w' (fun _ => False)
/-- The premise at work. -/
structure PS (w W : World) (ids : List Int) (ops : List DO) (sb rb k : Nat) : Prop where
  p2 : P2 w W sb rb (stt ids (ops.take k)).1 (stt ids (ops.take k)).2
  gd : ∀ o ∈ ops.take k, good ids o
theorem PS.next {w W W' : World} {ids : List Int} {ops : List DO} {sb rb k : Nat} {o : DO} {s r : List Int} (h : PS w W ids ops sb rb k) (ho : ops[k]? = some o) (hg : good ids o) (hs : (nxt ids (stt ids (ops.take k)) o) = (s, r)) (hp : P2 w W' sb rb s r) : PS w W' ids ops sb rb (k + 1) := by
  refine ⟨by rw [stt_next ids ops k o ho, hs]; exact hp, fun o' ho' => ?_⟩
  rw [List.take_add_one, ho] at ho'
  rcases List.mem_append.1 ho' with q | q
  · exact h.gd o' q
  · simp at q
    subst q
    exact hg

set_option maxRecDepth 100000 in
set_option maxHeartbeats 8000000 in
theorem prem_any (ao : Option Addr) (cap : Nat) (ids : List Int) (limit : Int) (oa : Option Addr) (oc : Nat) (ops : List DO) (w : World) (hV : View w ao (ic ids)) (hn64 : ids.length ≤ 64) (hO : OV w oa ops) (ho256 : ops.length ≤ 256) (hl : InR limit) :
    Calls Tryf.prog 6 #[.slice ao ids.length cap, .int .i64 limit, .slice oa ops.length oc, .bool false, .bool true] w (Premd ids limit ops w) := by
  have HV := Hid.mk'' hV
  have HO := Hid.mk'' hO
  have Hl := Hid.mk'' hl
  obtain ⟨n, hn⟩ : ∃ n, n = ids.length := ⟨_, rfl⟩
  have HNn := Hid.mk'' hn
  obtain ⟨m, hm⟩ : ∃ m, m = ops.length := ⟨_, rfl⟩
  have HNm := Hid.mk'' hm
  rw [← hn] at hn64 ⊢
  rw [← hm] at ho256 ⊢
  clear hV hO hn hm hl
  have hmk := run_mk1 Tryf.underlying29 info3 rfl n (by omega) (by omega)
  go_enter Tryf.func6, Tryf.ntmps6
  go_wp2
  go_loopw [11] (fun a wr => ∃ (k : Nat), k ≤ n ∧ a = .int .i64 ((k : Int) + 1) ∧ Hid (∃ q, wr = w.drewN q)) (fun a _ => n - (intOf a).toNat)
  case atStart => exact ⟨0, Nat.zero_le _, rfl, 0, rfl⟩
  case round =>
    obtain ⟨k, hk, rfl, HQ⟩ := hrel
    by_cases hlt : k + 1 < n
    · obtain ⟨b1, o1, q1, _, hc1⟩ := HV.out.at (j := k + 1) (by rw [ic_length, ← HNn.out]; omega)
      subst q1
      have d1 : wr.cell? ⟨b1, o1 + (k + 1), none⟩ = some (.int .i64 (ids.getD (k + 1) 0)) := by { obtain ⟨q, rfl⟩ := HQ.out; exact hc1 _ _ (ic_get ids (k + 1) (by rw [← HNn.out]; omega)) }
      have d0 : wr.cell? ⟨b1, o1 + k, none⟩ = some (.int .i64 (ids.getD k 0)) := by { obtain ⟨q, rfl⟩ := HQ.out; exact hc1 _ _ (ic_get ids k (by rw [← HNn.out]; omega)) }
      obtain ⟨x1, hx1⟩ : ∃ x, ids.getD (k + 1) 0 = x := ⟨_, rfl⟩
      obtain ⟨x0, hx0⟩ : ∃ x, ids.getD k 0 = x := ⟨_, rfl⟩
      rw [hx1] at d1
      rw [hx0] at d0
      have i1 : (0 : Int) ≤ (k : Int) + 1 := by omega
      have i2 : (k : Int) + 1 < (n : Int) := by omega
      have i3 : (k : Int) < (n : Int) := by omega
      have i4 : ((k : Int) + 1).toNat = k + 1 := by omega
      have i5 : IntKind.i64.wrap ((k : Int) + 1 - 1) = (k : Int) := by rw [IntKind.wrap_i64]; omega
      clear hc1 hx1 hx0
      go_wp2_with fail
      go_quiet (fail)
      by_cases hz : x1 ≤ x0
      · go_wp2_with fail
        go_ret
        exact ⟨false, rfl, (fun h => by cases h), by { obtain ⟨q, rfl⟩ := HQ.out; exact ((Kept.refl w _).drewN _).drewN _ }⟩
      · go_wp2_with fail
        go_roundw
        case rel =>
          obtain ⟨q, hq⟩ := HQ.out
          exact ⟨k + 1, by omega, by go_num, _, by rw [hq, World.drewN_drewN]⟩
        case measure => simp [intOf]; omega
    · have i2 : ¬ (k : Int) + 1 < (n : Int) := by omega
      obtain ⟨w0, hw0⟩ : ∃ w0, w0 = wr := ⟨_, rfl⟩
      have HK0 : Hid (Kept w wr (fun _ => False)) := by { obtain ⟨q, rfl⟩ := HQ.out; exact (Kept.refl w _).drewN _ }
      go_wp2_with fail
      clear HQ hw0 i2 hlt hk
      obtain ⟨sb, hsb⟩ : ∃ sb, sb = wr.heap.size := ⟨_, rfl⟩
      obtain ⟨rb, hrb⟩ : ∃ rb, rb = wr.heap.size + 1 := ⟨_, rfl⟩
      obtain ⟨W, hW⟩ : ∃ W, W = (wr.alloc (.cells (Array.replicate n (.int .i64 0)) 3)).alloc (.cells (Array.replicate n (.int .i64 0)) 3) := ⟨_, rfl⟩
      have HS0 : Hid (PS w W ids ops sb rb 0) := by
        rw [hW]
        have e0 : (ic (List.replicate ids.length 0)).toArray = Array.replicate n (.int .i64 0) := by rw [← HNn.out]; exact ic_rep n
        refine ⟨⟨(HK0.out.alloc _).alloc _, ?_, ?_, by omega, by have := HK0.out.size; omega⟩, fun o ho => by simp at ho⟩
        · show Blk _ sb 3 (ic (List.replicate ids.length 0)).toArray
          rw [e0]
          exact (Blk.new' hsb.symm 3 _).alloc _
        · show Blk _ rb 3 (ic (List.replicate ids.length 0)).toArray
          rw [e0]
          exact Blk.new' (by rw [hrb]; simp) 3 _
      have e1 : wr.heap.size = sb := hsb.symm
      have e2 : (wr.alloc (.cells (Array.replicate n (.int .i64 0)) 3)).heap.size = rb := by rw [hrb]; simp
      try rw [← hW]
      try rw [← hsb]
      rw [show sb + 1 = rb by omega]
      clear hW hsb hrb e1 e2 HK0
      have HVall : Hid (∀ (v : Int) (W' : World), Kept w W' (fun _ => False) → Calls Tryf.prog 8 #[.slice ao n cap, .int .i64 v] W' fun e w' => e = .returned (.tuple #[.int .i64 ((pl ids v).getD 0 : Nat), .bool (pl ids v).isSome]) ∧ w' = W') := by
        intro v W' hk
        have h := place_any ao cap ids v W' (HV.out.kept hk (fun _ _ _ q => q)) (by rw [← HNn.out]; omega)
        rw [← HNn.out] at h
        exact h
      have HOall : Hid (∀ (W' : World), Kept w W' (fun _ => False) → OV W' oa ops) := fun W' hk => HO.out.kept hk (fun _ _ _ q => q)
      clear HV HO
      go_loopw [15] (fun a wx => ∃ (k : Nat), k ≤ m ∧ a = .int .i64 k ∧ Hid (PS w wx ids ops sb rb k)) (fun a _ => m - (intOf a).toNat)
      case atStart => exact ⟨0, Nat.zero_le _, rfl, HS0.out⟩
      case round =>
        clear HS0
        obtain ⟨k, hk, rfl, HS⟩ := hrel
        by_cases hlt : k < m
        · obtain ⟨o, ho⟩ : ∃ o, ops[k]? = some o := ⟨_, List.getElem?_eq_getElem (by rw [← HNm.out]; exact hlt)⟩
          obtain ⟨b1, o1, q1, c0, c1, c2, c3, c4, c5⟩ := (HOall.out wr HS.out.p2.kp).at ho
          subst q1
          obtain ⟨kd, a, b, rt, out, inn⟩ := o
          dsimp only at c0 c1 c2 c3 c4 c5
          have Ho := Hid.mk'' ho
          have i1 : (k : Int) < (m : Int) := by omega
          clear ho
          go_upto_region 13 with fail
          obtain ⟨pb, hpb⟩ : ∃ pb, pb = wr.heap.size := ⟨_, rfl⟩
          obtain ⟨W1, hW1⟩ : ∃ W1, W1 = wr.alloc (.cells #[.int .i64 kd, .int .i64 a, .int .i64 b, .int .i64 rt, .int .i64 out, .int .i64 inn] 36) := ⟨_, rfl⟩
          obtain ⟨s, hs⟩ : ∃ s, s = (stt ids (ops.take k)).1 := ⟨_, rfl⟩
          obtain ⟨r, hr⟩ : ∃ r, r = (stt ids (ops.take k)).2 := ⟨_, rfl⟩
          have hsl : s.length = n := by rw [hs, HNn.out]; exact (stt_length _ _).1
          have hrl : r.length = n := by rw [hr, HNn.out]; exact (stt_length _ _).2
          have HP : Hid (P2 w W1 sb rb s r) := by rw [hW1, hs, hr]; exact HS.out.p2.alloc _
          have hBp : Blk W1 pb 36 #[.int .i64 kd, .int .i64 a, .int .i64 b, .int .i64 rt, .int .i64 out, .int .i64 inn] := by rw [hW1]; exact Blk.new' hpb.symm 36 _
          have HBp := Hid.mk'' hBp
          have hps : ¬ pb = sb := by have := HS.out.p2.sB.lt; omega
          have hpr : ¬ pb = rb := by have := HS.out.p2.rB.lt; omega
          have hps' : ¬ sb = pb := fun e => hps e.symm
          have hpr' : ¬ rb = pb := fun e => hpr e.symm
          have HNX : Hid (∀ (W' : World) (s' r' : List Int), good ids ⟨kd, a, b, rt, out, inn⟩ → nxt ids (s, r) ⟨kd, a, b, rt, out, inn⟩ = (s', r') → P2 w W' sb rb s' r' → PS w W' ids ops sb rb (k + 1)) := fun W' s' r' hg hn hp => HS.out.next Ho.out hg (by rw [← hn, hs, hr]) hp
          have p0 : W1.cell? ⟨pb, 0, none⟩ = some (.int .i64 kd) := hBp.cell 0
          have p1 : W1.cell? ⟨pb, 1, none⟩ = some (.int .i64 a) := hBp.cell 1
          have p2 : W1.cell? ⟨pb, 2, none⟩ = some (.int .i64 b) := hBp.cell 2
          have p3 : W1.cell? ⟨pb, 3, none⟩ = some (.int .i64 rt) := hBp.cell 3
          have p4 : W1.cell? ⟨pb, 4, none⟩ = some (.int .i64 out) := hBp.cell 4
          have p5 : W1.cell? ⟨pb, 5, none⟩ = some (.int .i64 inn) := hBp.cell 5
          have fsb := HP.out.sB.frozen
          have frb := HP.out.rB.frozen
          rw [← hW1, ← hpb]
          clear hW1 hpb hs hr HS c0 c1 c2 c3 c4 c5 hBp
          by_cases hk0 : kd = 0
          · subst hk0
            as_aux_lemma =>
              rcases hpa : pl ids a with _ | i
              · have HPa := Hid.mk'' hpa
                clear hpa
                go_wp2_with (first | (go_at_call 8; go_must (refine (HVall.out a _ HP.out.kp).mono ?_); rintro e w9 ⟨rfl, hw9⟩; rw [hw9]; clear hw9 w9; rw [HPa.out]; simp only [Option.getD_some, Option.isSome_some, Option.getD_none, Option.isSome_none]) | fail)
                go_ret
                exact ⟨false, rfl, (fun h => by cases h), HP.out.kp⟩
              · have HPa := Hid.mk'' hpa
                have hi : i < n := by rw [HNn.out]; exact pl_lt hpa
                clear hpa
                by_cases hout : out < 0
                · go_wp2_with (first | (go_at_call 8; go_must (refine (HVall.out a _ HP.out.kp).mono ?_); rintro e w9 ⟨rfl, hw9⟩; rw [hw9]; clear hw9 w9; rw [HPa.out]; simp only [Option.getD_some, Option.isSome_some, Option.getD_none, Option.isSome_none]) | fail)
                  go_ret
                  exact ⟨false, rfl, (fun h => by cases h), HP.out.kp⟩
                by_cases hinn : inn < 0
                · go_wp2_with (first | (go_at_call 8; go_must (refine (HVall.out a _ HP.out.kp).mono ?_); rintro e w9 ⟨rfl, hw9⟩; rw [hw9]; clear hw9 w9; rw [HPa.out]; simp only [Option.getD_some, Option.isSome_some, Option.getD_none, Option.isSome_none]) | fail)
                  go_ret
                  exact ⟨false, rfl, (fun h => by cases h), HP.out.kp⟩
                have j1 : (i : Int) < (n : Int) := by omega
                obtain ⟨z1, hz1⟩ : ∃ z1, z1 = s.getD i 0 := ⟨_, rfl⟩
                obtain ⟨z2, hz2⟩ : ∃ z2, z2 = r.getD i 0 := ⟨_, rfl⟩
                have qs : W1.cell? ⟨sb, i, none⟩ = some (.int .i64 z1) := by rw [hz1]; exact HP.out.cs (by omega)
                have qr : W1.cell? ⟨rb, i, none⟩ = some (.int .i64 z2) := by rw [hz2]; exact HP.out.cr (by omega)
                obtain ⟨ok1, hok1⟩ := add_det z1 out
                obtain ⟨ok2, hok2⟩ := add_det z2 inn
                obtain ⟨x1, hx1⟩ : ∃ x1, x1 = wrap64 (z1 + out) := ⟨_, rfl⟩
                obtain ⟨x2, hx2⟩ : ∃ x2, x2 = wrap64 (z2 + inn) := ⟨_, rfl⟩
                rw [← hx1] at hok1
                rw [← hx2] at hok2
                have Hok1 := Hid.mk'' hok1
                have Hok2 := Hid.mk'' hok2
                have hu1 : up s i out = s.set i x1 := by rw [hx1, hz1]; rfl
                have hu2 : up r i inn = r.set i x2 := by rw [hx2, hz2]; rfl
                have Hu1 := Hid.mk'' hu1
                have Hu2 := Hid.mk'' hu2
                clear hok1 hok2 hx1 hx2 hz1 hz2 hu1 hu2
                go_upto_region 21 with (first | (go_at_call 8; go_must (refine (HVall.out a _ HP.out.kp).mono ?_); rintro e w9 ⟨rfl, hw9⟩; rw [hw9]; clear hw9 w9; rw [HPa.out]; simp only [Option.getD_some, Option.isSome_some, Option.getD_none, Option.isSome_none]) | fail)
                go_quiet (first | (go_at_call 9; refine Calls.quiet_of_same (Hok1.out _)) | fail)
                cases ok1
                · go_wp2_with fail
                  go_ret
                  exact ⟨false, rfl, (fun h => by cases h), HP.out.kp.drewN _⟩
                go_upto_region 25 with fail
                obtain ⟨W2, hW2⟩ : ∃ W2, W2 = (W1.drewN nq).setCell ⟨sb, i, none⟩ (.int .i64 x1) := ⟨_, rfl⟩
                have HP2 : Hid (P2 w W2 sb rb (s.set i x1) r) := by rw [hW2]; exact (HP.out.drewN _).sent i x1
                have hBp2 : Blk W2 pb 36 #[.int .i64 0, .int .i64 a, .int .i64 b, .int .i64 rt, .int .i64 out, .int .i64 inn] := by rw [hW2]; exact (HBp.out.drewN _).kept (Kept.one _ _ _ _) hps
                have p5 : W2.cell? ⟨pb, 5, none⟩ = some (.int .i64 inn) := hBp2.cell 5
                have qr2 : W2.cell? ⟨rb, i, none⟩ = some (.int .i64 z2) := by { have h1 := HP2.out.cr (i := i) (by omega); have h2 := HP.out.cr (i := i) (by omega); rw [qr] at h2; rw [h1, h2] }
                have frb2 := HP2.out.rB.frozen
                try rw [← hW2]
                clear hW2 hBp2 HBp qs qr fsb frb
                go_quiet (first | (go_at_call 9; refine Calls.quiet_of_same (Hok2.out _)) | fail)
                cases ok2
                · go_wp2_with fail
                  go_ret
                  exact ⟨false, rfl, (fun h => by cases h), HP2.out.kp.drewN _⟩
                go_wp2_with fail
                go_roundw
                case rel => exact ⟨k + 1, by omega, by go_num, HNX.out _ _ _ (.inl ⟨rfl, by rw [HPa.out]; rfl⟩) (by simp [nxt, HPa.out, Hu1.out, Hu2.out] <;> exact ⟨rfl, rfl⟩) ((HP2.out.drewN _).recv i x2)⟩
                case measure => simp [intOf]; omega
          by_cases hk1 : kd = 1
          · subst hk1
            by_cases hr2 : rt = 2
            · subst hr2
              as_aux_lemma =>
                rcases hpb2 : pl ids b with _ | j
                · have HPb := Hid.mk'' hpb2
                  clear hpb2
                  go_wp2_with (first | (go_at_call 8; go_must (refine (HVall.out b _ HP.out.kp).mono ?_); rintro e w9 ⟨rfl, hw9⟩; rw [hw9]; clear hw9 w9; rw [HPb.out]; simp only [Option.getD_some, Option.isSome_some, Option.getD_none, Option.isSome_none]) | fail)
                  go_roundw
                  case rel => exact ⟨k + 1, by omega, by go_num, HNX.out _ _ _ (.inr (.inl ⟨rfl, .inl rfl⟩)) (by simp [nxt] <;> exact ⟨rfl, rfl⟩) (HP.out)⟩
                  case measure => simp [intOf]; omega
                · have HPb := Hid.mk'' hpb2
                  clear hpb2
                  go_wp2_with (first | (go_at_call 8; go_must (refine (HVall.out b _ HP.out.kp).mono ?_); rintro e w9 ⟨rfl, hw9⟩; rw [hw9]; clear hw9 w9; rw [HPb.out]; simp only [Option.getD_some, Option.isSome_some, Option.getD_none, Option.isSome_none]) | fail)
                  go_roundw
                  case rel => exact ⟨k + 1, by omega, by go_num, HNX.out _ _ _ (.inr (.inl ⟨rfl, .inl rfl⟩)) (by simp [nxt] <;> exact ⟨rfl, rfl⟩) (HP.out)⟩
                  case measure => simp [intOf]; omega
            by_cases hr0 : rt = 0
            · subst hr0
              as_aux_lemma =>
                rcases hpa : pl ids a with _ | i
                · have HPa := Hid.mk'' hpa
                  clear hpa
                  go_wp2_with (first | (go_at_call 8; go_must (refine (HVall.out a _ HP.out.kp).mono ?_); rintro e w9 ⟨rfl, hw9⟩; rw [hw9]; clear hw9 w9; rw [HPa.out]; simp only [Option.getD_some, Option.isSome_some, Option.getD_none, Option.isSome_none]) | fail)
                  go_ret
                  exact ⟨false, rfl, (fun h => by cases h), HP.out.kp⟩
                · have HPa := Hid.mk'' hpa
                  have hi : i < n := by rw [HNn.out]; exact pl_lt hpa
                  clear hpa
                  have j1 : (i : Int) < (n : Int) := by omega
                  obtain ⟨z1, hz1⟩ : ∃ z1, z1 = s.getD i 0 := ⟨_, rfl⟩
                  obtain ⟨ok1, hok1⟩ := add_det z1 1
                  obtain ⟨x1, hx1⟩ : ∃ x1, x1 = wrap64 (z1 + 1) := ⟨_, rfl⟩
                  rw [← hx1] at hok1
                  have Hok1 := Hid.mk'' hok1
                  have hu1 : up s i 1 = s.set i x1 := by rw [hx1, hz1]; rfl
                  have Hu1 := Hid.mk'' hu1
                  have qs : W1.cell? ⟨sb, i, none⟩ = some (.int .i64 z1) := by rw [hz1]; exact HP.out.cs (by omega)
                  clear hok1 hx1 hz1 hu1
                  go_upto_region 36 with (first | (go_at_call 8; go_must (refine (HVall.out a _ HP.out.kp).mono ?_); rintro e w9 ⟨rfl, hw9⟩; rw [hw9]; clear hw9 w9; rw [HPa.out]; simp only [Option.getD_some, Option.isSome_some, Option.getD_none, Option.isSome_none]) | fail)
                  go_upto_region 37 with (first | (go_at_call 9; refine (Hok1.out _).mono ?_; rintro e w9 ⟨rfl, hw9⟩; rw [hw9]; clear hw9 w9) | fail)
                  cases ok1
                  · go_wp2_with fail
                    go_ret
                    exact ⟨false, rfl, (fun h => by cases h), HP.out.kp⟩
                  go_upto_region 40 with fail
                  obtain ⟨W2, hW2⟩ : ∃ W2, W2 = W1.setCell ⟨sb, i, none⟩ (.int .i64 x1) := ⟨_, rfl⟩
                  have HP2 : Hid (P2 w W2 sb rb (s.set i x1) r) := by rw [hW2]; exact HP.out.sent i x1
                  have hBp2 : Blk W2 pb 36 #[.int .i64 1, .int .i64 a, .int .i64 b, .int .i64 0, .int .i64 out, .int .i64 inn] := by rw [hW2]; exact HBp.out.kept (Kept.one _ _ _ _) hps
                  have p2 : W2.cell? ⟨pb, 2, none⟩ = some (.int .i64 b) := hBp2.cell 2
                  have p3 : W2.cell? ⟨pb, 3, none⟩ = some (.int .i64 0) := hBp2.cell 3
                  have frb := HP2.out.rB.frozen
                  try rw [← hW2]
                  clear hW2 hBp2 HBp qs fsb
                  rcases hpb2 : pl ids b with _ | j
                  · have HPb := Hid.mk'' hpb2
                    clear hpb2
                    go_wp2_with (first | (go_at_call 8; go_must (refine (HVall.out b _ HP2.out.kp).mono ?_); rintro e w9 ⟨rfl, hw9⟩; rw [hw9]; clear hw9 w9; rw [HPb.out]; simp only [Option.getD_some, Option.isSome_some, Option.getD_none, Option.isSome_none]) | fail)
                    go_roundw
                    case rel => exact ⟨k + 1, by omega, by go_num, HNX.out _ _ _ (.inr (.inl ⟨rfl, .inr ⟨.inl rfl, by rw [HPa.out]; rfl⟩⟩)) (by simp [nxt, HPa.out, HPb.out, Hu1.out] <;> exact ⟨rfl, rfl⟩) (HP2.out)⟩
                    case measure => simp [intOf]; omega
                  · have HPb := Hid.mk'' hpb2
                    clear hpb2
                    go_wp2_with (first | (go_at_call 8; go_must (refine (HVall.out b _ HP2.out.kp).mono ?_); rintro e w9 ⟨rfl, hw9⟩; rw [hw9]; clear hw9 w9; rw [HPb.out]; simp only [Option.getD_some, Option.isSome_some, Option.getD_none, Option.isSome_none]) | fail)
                    go_roundw
                    case rel => exact ⟨k + 1, by omega, by go_num, HNX.out _ _ _ (.inr (.inl ⟨rfl, .inr ⟨.inl rfl, by rw [HPa.out]; rfl⟩⟩)) (by simp [nxt, HPa.out, HPb.out, Hu1.out] <;> exact ⟨rfl, rfl⟩) (HP2.out)⟩
                    case measure => simp [intOf]; omega
            by_cases hr1 : rt = 1
            · subst hr1
              as_aux_lemma =>
                rcases hpa : pl ids a with _ | i
                · have HPa := Hid.mk'' hpa
                  clear hpa
                  go_wp2_with (first | (go_at_call 8; go_must (refine (HVall.out a _ HP.out.kp).mono ?_); rintro e w9 ⟨rfl, hw9⟩; rw [hw9]; clear hw9 w9; rw [HPa.out]; simp only [Option.getD_some, Option.isSome_some, Option.getD_none, Option.isSome_none]) | fail)
                  go_ret
                  exact ⟨false, rfl, (fun h => by cases h), HP.out.kp⟩
                · have HPa := Hid.mk'' hpa
                  have hi : i < n := by rw [HNn.out]; exact pl_lt hpa
                  clear hpa
                  have j1 : (i : Int) < (n : Int) := by omega
                  obtain ⟨z1, hz1⟩ : ∃ z1, z1 = s.getD i 0 := ⟨_, rfl⟩
                  obtain ⟨ok1, hok1⟩ := add_det z1 1
                  obtain ⟨x1, hx1⟩ : ∃ x1, x1 = wrap64 (z1 + 1) := ⟨_, rfl⟩
                  rw [← hx1] at hok1
                  have Hok1 := Hid.mk'' hok1
                  have hu1 : up s i 1 = s.set i x1 := by rw [hx1, hz1]; rfl
                  have Hu1 := Hid.mk'' hu1
                  have qs : W1.cell? ⟨sb, i, none⟩ = some (.int .i64 z1) := by rw [hz1]; exact HP.out.cs (by omega)
                  clear hok1 hx1 hz1 hu1
                  go_upto_region 36 with (first | (go_at_call 8; go_must (refine (HVall.out a _ HP.out.kp).mono ?_); rintro e w9 ⟨rfl, hw9⟩; rw [hw9]; clear hw9 w9; rw [HPa.out]; simp only [Option.getD_some, Option.isSome_some, Option.getD_none, Option.isSome_none]) | fail)
                  go_upto_region 37 with (first | (go_at_call 9; refine (Hok1.out _).mono ?_; rintro e w9 ⟨rfl, hw9⟩; rw [hw9]; clear hw9 w9) | fail)
                  cases ok1
                  · go_wp2_with fail
                    go_ret
                    exact ⟨false, rfl, (fun h => by cases h), HP.out.kp⟩
                  go_upto_region 40 with fail
                  obtain ⟨W2, hW2⟩ : ∃ W2, W2 = W1.setCell ⟨sb, i, none⟩ (.int .i64 x1) := ⟨_, rfl⟩
                  have HP2 : Hid (P2 w W2 sb rb (s.set i x1) r) := by rw [hW2]; exact HP.out.sent i x1
                  have hBp2 : Blk W2 pb 36 #[.int .i64 1, .int .i64 a, .int .i64 b, .int .i64 1, .int .i64 out, .int .i64 inn] := by rw [hW2]; exact HBp.out.kept (Kept.one _ _ _ _) hps
                  have p2 : W2.cell? ⟨pb, 2, none⟩ = some (.int .i64 b) := hBp2.cell 2
                  have p3 : W2.cell? ⟨pb, 3, none⟩ = some (.int .i64 1) := hBp2.cell 3
                  have frb := HP2.out.rB.frozen
                  try rw [← hW2]
                  clear hW2 hBp2 HBp qs fsb
                  rcases hpb2 : pl ids b with _ | j
                  · have HPb := Hid.mk'' hpb2
                    clear hpb2
                    go_wp2_with (first | (go_at_call 8; go_must (refine (HVall.out b _ HP2.out.kp).mono ?_); rintro e w9 ⟨rfl, hw9⟩; rw [hw9]; clear hw9 w9; rw [HPb.out]; simp only [Option.getD_some, Option.isSome_some, Option.getD_none, Option.isSome_none]) | fail)
                    go_roundw
                    case rel => exact ⟨k + 1, by omega, by go_num, HNX.out _ _ _ (.inr (.inl ⟨rfl, .inr ⟨.inr rfl, by rw [HPa.out]; rfl⟩⟩)) (by simp [nxt, HPa.out, HPb.out, Hu1.out] <;> exact ⟨rfl, rfl⟩) (HP2.out)⟩
                    case measure => simp [intOf]; omega
                  · have HPb := Hid.mk'' hpb2
                    have hj : j < n := by rw [HNn.out]; exact pl_lt hpb2
                    clear hpb2
                    have j2 : (j : Int) < (n : Int) := by omega
                    obtain ⟨z2, hz2⟩ : ∃ z2, z2 = r.getD j 0 := ⟨_, rfl⟩
                    obtain ⟨ok2, hok2⟩ := add_det z2 1
                    obtain ⟨x2, hx2⟩ : ∃ x2, x2 = wrap64 (z2 + 1) := ⟨_, rfl⟩
                    rw [← hx2] at hok2
                    have Hok2 := Hid.mk'' hok2
                    have hu2 : up r j 1 = r.set j x2 := by rw [hx2, hz2]; rfl
                    have Hu2 := Hid.mk'' hu2
                    have qr : W2.cell? ⟨rb, j, none⟩ = some (.int .i64 z2) := by rw [hz2]; exact HP2.out.cr (by omega)
                    clear hok2 hx2 hz2 hu2
                    go_upto_region 41 with (first | (go_at_call 8; go_must (refine (HVall.out b _ HP2.out.kp).mono ?_); rintro e w9 ⟨rfl, hw9⟩; rw [hw9]; clear hw9 w9; rw [HPb.out]; simp only [Option.getD_some, Option.isSome_some, Option.getD_none, Option.isSome_none]) | fail)
                    go_upto_region 46 with (first | (go_at_call 9; refine (Hok2.out _).mono ?_; rintro e w9 ⟨rfl, hw9⟩; rw [hw9]; clear hw9 w9) | fail)
                    cases ok2
                    · go_wp2_with fail
                      go_ret
                      exact ⟨false, rfl, (fun h => by cases h), HP2.out.kp⟩
                    go_wp2_with fail
                    go_roundw
                    case rel => exact ⟨k + 1, by omega, by go_num, HNX.out _ _ _ (.inr (.inl ⟨rfl, .inr ⟨.inr rfl, by rw [HPa.out]; rfl⟩⟩)) (by simp [nxt, HPa.out, HPb.out, Hu1.out, Hu2.out] <;> exact ⟨rfl, rfl⟩) (HP2.out.recv j x2)⟩
                    case measure => simp [intOf]; omega
            by_cases hr3 : rt < 0
            · go_wp2_with fail
              go_ret
              exact ⟨false, rfl, (fun h => by cases h), HP.out.kp⟩
            have hr4 : 2 < rt := by omega
            go_wp2_with fail
            go_ret
            exact ⟨false, rfl, (fun h => by cases h), HP.out.kp⟩
          by_cases hk2 : kd = 2
          · subst hk2
            as_aux_lemma =>
              rcases hpa : pl ids a with _ | i
              · have HPa := Hid.mk'' hpa
                clear hpa
                rcases hpb2 : pl ids b with _ | j
                · have HPb := Hid.mk'' hpb2
                  clear hpb2
                  go_upto_region 51 with (first | (go_at_call 8; go_must (refine (HVall.out a _ HP.out.kp).mono ?_); rintro e w9 ⟨rfl, hw9⟩; rw [hw9]; clear hw9 w9; rw [HPa.out]; simp only [Option.getD_some, Option.isSome_some, Option.getD_none, Option.isSome_none]) | fail)
                  go_wp2_with (first | (go_at_call 8; go_must (refine (HVall.out b _ HP.out.kp).mono ?_); rintro e w9 ⟨rfl, hw9⟩; rw [hw9]; clear hw9 w9; rw [HPb.out]; simp only [Option.getD_some, Option.isSome_some, Option.getD_none, Option.isSome_none]) | fail)
                  go_ret
                  exact ⟨false, rfl, (fun h => by cases h), HP.out.kp⟩
                · have HPb := Hid.mk'' hpb2
                  clear hpb2
                  go_upto_region 51 with (first | (go_at_call 8; go_must (refine (HVall.out a _ HP.out.kp).mono ?_); rintro e w9 ⟨rfl, hw9⟩; rw [hw9]; clear hw9 w9; rw [HPa.out]; simp only [Option.getD_some, Option.isSome_some, Option.getD_none, Option.isSome_none]) | fail)
                  go_wp2_with (first | (go_at_call 8; go_must (refine (HVall.out b _ HP.out.kp).mono ?_); rintro e w9 ⟨rfl, hw9⟩; rw [hw9]; clear hw9 w9; rw [HPb.out]; simp only [Option.getD_some, Option.isSome_some, Option.getD_none, Option.isSome_none]) | fail)
                  go_ret
                  exact ⟨false, rfl, (fun h => by cases h), HP.out.kp⟩
              · have HPa := Hid.mk'' hpa
                have hi : i < n := by rw [HNn.out]; exact pl_lt hpa
                clear hpa
                have j1 : (i : Int) < (n : Int) := by omega
                rcases hpb2 : pl ids b with _ | j
                · have HPb := Hid.mk'' hpb2
                  clear hpb2
                  go_upto_region 51 with (first | (go_at_call 8; go_must (refine (HVall.out a _ HP.out.kp).mono ?_); rintro e w9 ⟨rfl, hw9⟩; rw [hw9]; clear hw9 w9; rw [HPa.out]; simp only [Option.getD_some, Option.isSome_some, Option.getD_none, Option.isSome_none]) | fail)
                  go_wp2_with (first | (go_at_call 8; go_must (refine (HVall.out b _ HP.out.kp).mono ?_); rintro e w9 ⟨rfl, hw9⟩; rw [hw9]; clear hw9 w9; rw [HPb.out]; simp only [Option.getD_some, Option.isSome_some, Option.getD_none, Option.isSome_none]) | fail)
                  go_ret
                  exact ⟨false, rfl, (fun h => by cases h), HP.out.kp⟩
                · have HPb := Hid.mk'' hpb2
                  have hj : j < n := by rw [HNn.out]; exact pl_lt hpb2
                  clear hpb2
                  have j2 : (j : Int) < (n : Int) := by omega
                  obtain ⟨z1, hz1⟩ : ∃ z1, z1 = s.getD i 0 := ⟨_, rfl⟩
                  obtain ⟨ok1, hok1⟩ := add_det z1 1
                  obtain ⟨x1, hx1⟩ : ∃ x1, x1 = wrap64 (z1 + 1) := ⟨_, rfl⟩
                  rw [← hx1] at hok1
                  have Hok1 := Hid.mk'' hok1
                  have hu1 : up s i 1 = s.set i x1 := by rw [hx1, hz1]; rfl
                  have Hu1 := Hid.mk'' hu1
                  have qs : W1.cell? ⟨sb, i, none⟩ = some (.int .i64 z1) := by rw [hz1]; exact HP.out.cs (by omega)
                  clear hok1 hx1 hz1 hu1
                  go_upto_region 51 with (first | (go_at_call 8; go_must (refine (HVall.out a _ HP.out.kp).mono ?_); rintro e w9 ⟨rfl, hw9⟩; rw [hw9]; clear hw9 w9; rw [HPa.out]; simp only [Option.getD_some, Option.isSome_some, Option.getD_none, Option.isSome_none]) | fail)
                  go_upto_region 54 with (first | (go_at_call 8; go_must (refine (HVall.out b _ HP.out.kp).mono ?_); rintro e w9 ⟨rfl, hw9⟩; rw [hw9]; clear hw9 w9; rw [HPb.out]; simp only [Option.getD_some, Option.isSome_some, Option.getD_none, Option.isSome_none]) | fail)
                  go_upto_region 55 with (first | (go_at_call 9; refine (Hok1.out _).mono ?_; rintro e w9 ⟨rfl, hw9⟩; rw [hw9]; clear hw9 w9) | fail)
                  cases ok1
                  · go_wp2_with fail
                    go_ret
                    exact ⟨false, rfl, (fun h => by cases h), HP.out.kp⟩
                  go_upto_region 58 with fail
                  obtain ⟨W2, hW2⟩ : ∃ W2, W2 = W1.setCell ⟨sb, i, none⟩ (.int .i64 x1) := ⟨_, rfl⟩
                  have HP2 : Hid (P2 w W2 sb rb (s.set i x1) r) := by rw [hW2]; exact HP.out.sent i x1
                  have hBp2 : Blk W2 pb 36 #[.int .i64 2, .int .i64 a, .int .i64 b, .int .i64 rt, .int .i64 out, .int .i64 inn] := by rw [hW2]; exact HBp.out.kept (Kept.one _ _ _ _) hps
                  have p2 : W2.cell? ⟨pb, 2, none⟩ = some (.int .i64 b) := hBp2.cell 2
                  have p3 : W2.cell? ⟨pb, 3, none⟩ = some (.int .i64 rt) := hBp2.cell 3
                  have frb := HP2.out.rB.frozen
                  try rw [← hW2]
                  clear hW2 hBp2 HBp qs fsb
                  obtain ⟨z2, hz2⟩ : ∃ z2, z2 = r.getD j 0 := ⟨_, rfl⟩
                  obtain ⟨ok2, hok2⟩ := add_det z2 1
                  obtain ⟨x2, hx2⟩ : ∃ x2, x2 = wrap64 (z2 + 1) := ⟨_, rfl⟩
                  rw [← hx2] at hok2
                  have Hok2 := Hid.mk'' hok2
                  have hu2 : up r j 1 = r.set j x2 := by rw [hx2, hz2]; rfl
                  have Hu2 := Hid.mk'' hu2
                  have qr : W2.cell? ⟨rb, j, none⟩ = some (.int .i64 z2) := by rw [hz2]; exact HP2.out.cr (by omega)
                  clear hok2 hx2 hz2 hu2
                  go_upto_region 59 with (first | (go_at_call 9; refine (Hok2.out _).mono ?_; rintro e w9 ⟨rfl, hw9⟩; rw [hw9]; clear hw9 w9) | fail)
                  cases ok2
                  · go_wp2_with fail
                    go_ret
                    exact ⟨false, rfl, (fun h => by cases h), HP2.out.kp⟩
                  go_wp2_with fail
                  go_roundw
                  case rel => exact ⟨k + 1, by omega, by go_num, HNX.out _ _ _ (.inr (.inr ⟨rfl, by rw [HPa.out]; rfl, by rw [HPb.out]; rfl⟩)) (by simp [nxt, HPa.out, HPb.out, Hu1.out, Hu2.out] <;> exact ⟨rfl, rfl⟩) (HP2.out.recv j x2)⟩
                  case measure => simp [intOf]; omega
          go_wp2_with fail
          go_ret
          exact ⟨false, rfl, (fun h => by cases h), HP.out.kp⟩
        · have i1 : ¬ (k : Int) < (m : Int) := by omega
          obtain rfl : k = m := by omega
          have HF : Hid (PS w wr ids ops sb rb ops.length) := by { have h := HS.out; rw [← HNm.out]; exact h }
          clear HS HOall
          go_wp2_with fail
          go_loopw [39] (fun a wx => ∃ (q : Nat), q ≤ n ∧ a = .int .i64 q ∧ Hid (∀ j, j < q → InR (limit - (stt ids ops).2.getD j 0)) ∧ wx = wr) (fun a _ => n - (intOf a).toNat)
          case atStart => exact ⟨0, Nat.zero_le _, rfl, (fun j hj => absurd hj (Nat.not_lt_zero _)), rfl⟩
          case round =>
            obtain ⟨q, hq, rfl, HQ, rfl⟩ := hrel
            have HF2 : Hid (P2 w wr sb rb (stt ids ops).1 (stt ids ops).2 ∧ ∀ o ∈ ops, good ids o) := by
              have h := HF.out
              have e : ops.take ops.length = ops := List.take_length
              exact ⟨by have h1 := h.p2; rw [e] at h1; exact h1, fun o ho => h.gd o (by rw [e]; exact ho)⟩
            by_cases hqn : q < n
            · obtain ⟨z, hz⟩ : ∃ z, z = (stt ids ops).2.getD q 0 := ⟨_, rfl⟩
              have qr : wr.cell? ⟨rb, q, none⟩ = some (.int .i64 z) := by rw [hz]; exact HF2.out.1.cr (by rw [(stt_length ids ops).2, ← HNn.out]; exact hqn)
              have hzR : InR z := by rw [hz]; exact inR_stt ids ops q
              have Hz := Hid.mk'' hz
              have HzR := Hid.mk'' hzR
              have j1 : (q : Int) < (n : Int) := by omega
              clear hz hzR
              go_upto_region 66 with (first | (go_at_call 10; refine (sub_any limit z _ Hl.out.1 Hl.out.2 HzR.out.1 HzR.out.2).mono ?_; rintro e w9 ⟨⟨ok, rfl, hok⟩, hw9⟩; rw [hw9]; have Hok := Hid.mk'' hok; clear hw9 w9 hok) | fail)
              cases ok
              · go_wp2_with fail
                go_ret
                exact ⟨false, rfl, (fun h => by cases h), HF2.out.1.kp⟩
              go_wp2_with fail
              go_roundw
              case rel =>
                refine ⟨q + 1, by omega, by go_num, fun j hj => ?_, by first | rfl | trivial⟩
                by_cases hjq : j < q
                · exact HQ.out j hjq
                · obtain rfl : j = q := by omega
                  rw [← Hz.out, ← Hok.out rfl]
                  exact inR_wrap _
              case measure => simp [intOf]; omega
            · have j1 : ¬ (q : Int) < (n : Int) := by omega
              go_wp2_with fail
              go_ret
              exact ⟨true, rfl, fun _ => ⟨HF2.out.2, fun j hj => HQ.out j (by have := HNn.out; omega)⟩, HF2.out.1.kp⟩
end Go.Proofs.Qxb6003861aFmt
