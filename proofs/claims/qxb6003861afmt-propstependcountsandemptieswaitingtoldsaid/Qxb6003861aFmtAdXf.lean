import Derived.Test.Qxb6003861aFmtAdXa
import Derived.Test.Qxb6003861aFmtAdXb
import Derived.Test.Qxb6003861aFmtAdXc
import Derived.Test.Qxb6003861aFmtAdXd
import Derived.Test.Qxb6003861aFmtAdXe
namespace Go.Proofs.Qxb6003861aFmt
open Go.RowKit
set_option linter.unusedVariables false
set_option linter.unusedSimpArgs false
variable {B : Nat}
set_option maxRecDepth 100000 in
set_option maxHeartbeats 8000000 in
theorem run_any (ao : Option Addr) (cap : Nat) (ids : List Int) (limit : Int) (oa : Option Addr) (oc : Nat) (ops : List DO) (ta : Option Addr) (tc : Nat) (tape : List Int) (w : World) (hV : View w ao (ic ids)) (ha : ao = none → ids = []) (hn64 : ids.length ≤ 64) (hO : OV w oa ops) (ho256 : ops.length ≤ 256) (hT : View w ta (uc tape)) (hta : ta = none → tape = []) (ht64 : tape.length ≤ 64) (hd : ∀ x ∈ tape, Drawn x) (hl : InR limit) (hP : Prem ids limit ops) :
    Calls Tryf.prog 7 #[.slice ao ids.length cap, .int .i64 limit, .slice oa ops.length oc, .slice ta tape.length tc] w (Ran w ids limit ops) := by
  have HV := Hid.mk'' hV
  have HO := Hid.mk'' hO
  have HT := Hid.mk'' hT
  have Ha := Hid.mk'' ha
  have Hta := Hid.mk'' hta
  have Hd := Hid.mk'' hd
  have Hl := Hid.mk'' hl
  have HP := Hid.mk'' hP
  obtain ⟨n, hn⟩ : ∃ n, n = ids.length := ⟨_, rfl⟩
  have HNn := Hid.mk'' hn
  obtain ⟨m, hm⟩ : ∃ m, m = ops.length := ⟨_, rfl⟩
  have HNm := Hid.mk'' hm
  obtain ⟨l, hl'⟩ : ∃ l, l = tape.length := ⟨_, rfl⟩
  have HNl := Hid.mk'' hl'
  rw [← hn] at hn64 ⊢
  rw [← hm] at ho256 ⊢
  rw [← hl'] at ht64 ⊢
  clear hV hO hT ha hta hd hl hP hn hm hl'
  go_enter Tryf.func7, Tryf.ntmps7
  go_upto_if 47 with fail
  obtain ⟨W0, hW0⟩ : ∃ W0, W0 = w.alloc (.cells #[.bool false, .bool false, .bool false, .int .i64 0, .int .i64 0, .slice none 0 0, .slice none 0 0] 31) := ⟨_, rfl⟩
  obtain ⟨eb, heb⟩ : ∃ eb, eb = w.heap.size := ⟨_, rfl⟩
  have HK0 : Hid (Kept w W0 (fun _ => False) ∧ Blk W0 eb 31 Z7) := by { rw [hW0, heb]; exact ⟨(Kept.refl _ _).alloc _, Blk.new w 31 _⟩ }
  have HEb : Hid (w.heap.size ≤ eb) := Nat.le_of_eq heb.symm
  rw [← hW0, ← heb]
  clear hW0 heb
  go_cut [9] from 46 to 53 (fun s wx => ∃ ca cc, s = .slice ca n cc ∧ Hid (Kept w wx (fun _ => False) ∧ IWT 2 wx ca ids ∧ Blk wx eb 31 Z7))
  case first =>
    cases ao with
    | none =>
      have e0 : ids = [] := Ha.out rfl
      have He0 := Hid.mk'' e0
      clear e0
      go_wp2_with fail
      go_meet
      have en : n = 0 := by rw [HNn.out, He0.out]; rfl
      exact ⟨none, 0, by rw [en], HK0.out.1, .inl He0.out, HK0.out.2⟩
    | some a =>
      have hmk := run_mk1 Tryf.underlying22 info2 rfl n (by omega) (by omega)
      have HVw : Hid (View (W0.alloc (.cells (Array.replicate n (.int .i64 0)) 2)) (some a) (ic ids)) := (HV.out.kept HK0.out.1 (fun _ _ _ q => q)).alloc _
      have Hlen : Hid ((ic ids).length = n) := by { have h := HNn.out; show _ = _; rw [ic_length]; exact h.symm }
      go_wp2_with (first | (refine wpList_cp rfl (.tmp 51) (.tmp 52) 22 22 rfl 2 Tryf.underlying22 sz2 _ n n cap _ rfl rfl (.int .i64 0) (Blk.new W0 2 _) (ic ids) Hlen.out HVw.out (ic_one ids) ?_; intro w1 HB1 HK1) | fail)
      go_meet
      exact ⟨_, _, rfl, ((HK0.out.1.alloc _).next HK1.out (fun i hi q => by have h1 := HK0.out.1.size; omega)), .inr ⟨_, rfl, HB1.out⟩, (HK0.out.2.alloc _).kept HK1.out (fun q => by have h1 := HK0.out.2.lt; omega)⟩
  case rest =>
  obtain ⟨ca, cc, rfl, HC⟩ := hcut
  clear HK0 HV Ha
  go_upto_if 55 with fail
  go_cut [10] from 54 to 61 (fun s wx => ∃ da dc, s = .slice da l dc ∧ Hid (Kept w wx (fun _ => False) ∧ IWT 2 wx ca ids ∧ Blk wx eb 31 Z7 ∧ UW wx da tape))
  case first =>
    cases ta with
    | none =>
      have e0 : tape = [] := Hta.out rfl
      have He0 := Hid.mk'' e0
      clear e0
      go_wp2_with fail
      go_meet
      have en : l = 0 := by rw [HNl.out, He0.out]; rfl
      exact ⟨none, 0, by rw [en], HC.out.1, HC.out.2.1, HC.out.2.2, .inl He0.out⟩
    | some a =>
      have hmk := run_mk1 Tryf.underlying24 info34 rfl l (by omega) (by omega)
      have HVw : Hid (View (wc.alloc (.cells (Array.replicate l (.int .u64 0)) 34)) (some a) (uc tape)) := (HT.out.kept HC.out.1 (fun _ _ _ q => q)).alloc _
      have Hlen : Hid ((uc tape).length = l) := by { have h := HNl.out; show _ = _; rw [uc_length]; exact h.symm }
      go_wp2_with (first | (refine wpList_cp rfl (.tmp 59) (.tmp 60) 24 24 rfl 34 Tryf.underlying24 sz34 _ l l tc _ rfl rfl (.int .u64 0) (Blk.new wc 34 _) (uc tape) Hlen.out HVw.out (uc_one tape) ?_; intro w1 HB1 HK1) | fail)
      go_meet
      have t : Tame 0 false wc w1 (fun j => j = wc.heap.size) := Tame.next ((Tame.refl false wc _).alloc _) (Tame.ofKept HK1.out) (fun i _ q => q)
      exact ⟨_, _, rfl, ((HC.out.1.alloc _).next HK1.out (fun i hi q => by have h1 := HC.out.1.size; omega)), HC.out.2.1.tame t (hardF _ (by decide) (by decide)) (fun g q => .inr (fun cur h => by subst q; simp at h)), (HC.out.2.2.alloc _).kept HK1.out (fun q => by have h1 := HC.out.2.2.lt; omega), .inr ⟨_, rfl, HB1.out⟩⟩
  case rest =>
  obtain ⟨da, dc, rfl, HD⟩ := hcut
  clear HC HT Hta
  go_upto_region 12 with fail
  obtain ⟨B, hB⟩ : ∃ B, B = w.heap.size := ⟨_, rfl⟩
  obtain ⟨nb, hnb⟩ : ∃ nb, nb = wc.heap.size := ⟨_, rfl⟩
  obtain ⟨lb, hlb⟩ : ∃ lb, lb = wc.heap.size + 1 := ⟨_, rfl⟩
  obtain ⟨W1, hW1⟩ : ∃ W1, W1 = ((wc.alloc (.cells #[.slice ca n cc] 42)).alloc (.cells #[.slice none 0 0] 43)) := ⟨_, rfl⟩
  have hka : Kept wc W1 (fun _ => False) := by { rw [hW1]; exact ((Kept.refl _ _).alloc _).alloc _ }
  have hta : Tame B false wc W1 (fun _ => False) := Tame.ofKept hka
  have HW1 : Hid (Kept w W1 (fun _ => False) ∧ IWT 2 W1 ca ids ∧ Blk W1 eb 31 Z7 ∧ UW W1 da tape ∧ Blk W1 nb 42 #[.slice ca n cc] ∧ Blk W1 lb 43 #[.slice none 0 0] ∧ (B ≤ nb ∧ B ≤ lb ∧ w.heap.size = B)) := by
    refine ⟨HD.out.1.trans hka, HD.out.2.1.tame hta (hardF _ (by decide) (by decide)) (fun _ q => q.elim), HD.out.2.2.1.kept hka id, HD.out.2.2.2.tame hta (fun _ q => q.elim), ?_, ?_, ?_⟩
    · rw [hW1, hnb]; exact (Blk.new wc 42 _).alloc _
    · rw [hW1]; exact Blk.new' (by rw [hlb]; simp) 43 _
    · have h1 := HD.out.1.size; omega
  rw [← hW1, ← hlb, ← hnb]
  clear hka hta hW1 hnb hlb HD
  go_upto_region 13 with (first | (go_at_call 11; refine (newstep_any limit lb _).mono ?_; rintro e w9 ⟨rfl, hw9⟩; rw [hw9]; clear hw9 w9) | fail)
  obtain ⟨sb, hsb⟩ : ∃ sb, sb = W1.heap.size := ⟨_, rfl⟩
  obtain ⟨W2, hW2⟩ : ∃ W2, W2 = W1.alloc (.cells #[.int .i64 limit, .func (.func 12) #[] #[.pointer (some ⟨lb, 0, none⟩)], .nilIface, .slice none 0 0, .slice none 0 0, .slice none 0 0] 70) := ⟨_, rfl⟩
  have hka : Kept W1 W2 (fun _ => False) := by { rw [hW2]; exact (Kept.refl _ _).alloc _ }
  have hta : Tame B false W1 W2 (fun _ => False) := Tame.ofKept hka
  have HW2 : Hid ((Kept w W2 (fun _ => False) ∧ IWT 2 W2 ca ids ∧ Blk W2 eb 31 Z7 ∧ UW W2 da tape ∧ Blk W2 nb 42 #[.slice ca n cc] ∧ Blk W2 lb 43 #[.slice none 0 0] ∧ (B ≤ nb ∧ B ≤ lb ∧ w.heap.size = B)) ∧ Blk W2 sb 70 #[.int .i64 limit, .func (.func 12) #[] #[.pointer (some ⟨lb, 0, none⟩)], .nilIface, .slice none 0 0, .slice none 0 0, .slice none 0 0] ∧ B ≤ sb) := by
    refine ⟨⟨HW1.out.1.trans hka, HW1.out.2.1.tame hta (hardF _ (by decide) (by decide)) (fun _ q => q.elim), HW1.out.2.2.1.kept hka id, HW1.out.2.2.2.1.tame hta (fun _ q => q.elim), HW1.out.2.2.2.2.1.kept hka id, HW1.out.2.2.2.2.2.1.kept hka id, HW1.out.2.2.2.2.2.2⟩, ?_, ?_⟩
    · rw [hW2, hsb]; exact Blk.new W1 70 _
    · have h1 := HW1.out.1.size; have h2 := HW1.out.2.2.2.2.2.2.2.2; omega
  rw [← hW2, ← hsb]
  clear hka hta hW2 hsb HW1
  have Hbeg : Hid (Calls Tryf.prog 13 #[.pointer (some ⟨sb, 0, none⟩), .iface 40 (.pointer (some ⟨nb, 0, none⟩))] W2 fun e w' => e = .returned (.tuple #[]) ∧ ∃ so ro, SB w' sb nb lb limit (.slice so n n) (.slice ro n n) (.slice none 0 0) ∧ IWT 3 w' so (List.replicate n 0) ∧ IWT 3 w' ro (List.replicate n 0) ∧ (∀ g, so = some ⟨g, 0, none⟩ → ro ≠ some ⟨g, 0, none⟩) ∧ (∀ g, so = some ⟨g, 0, none⟩ ∨ ro = some ⟨g, 0, none⟩ → W2.heap.size ≤ g ∧ ∃ xs, Blk w' g 3 xs) ∧ Kept W2 w' (fun k => k = sb) ∧ (ids = [] → so = none ∧ ro = none)) := by
    have h := HW2.out.1
    have h2 := begin_any (B := B) limit sb nb lb cc ca ids W2 (by have := h.1.size; have := h.2.2.2.2.2.2; omega) HW2.out.2.1 ⟨by rw [← HNn.out]; exact h.2.2.2.2.1, h.2.1.view, by rw [← HNn.out]; exact hn64⟩
    rw [← HNn.out] at h2
    exact h2
  go_upto_region 14 with (first | (go_at_call 13; refine Hbeg.out.mono ?_; rintro e w3 ⟨rfl, so, ro, hb⟩; have HBg := Hid.mk'' hb; clear hb) | fail)
  clear Hbeg
  obtain ⟨cs, hrx, hcs, hci⟩ := run_mkx m (by omega) w3
  have hmk := run_mk1 Tryf.underlying29 info3 rfl n (by omega) (by omega)
  have hmw := run_mkw n (by omega)
  have HSt : Hid (RU B w (wOf w3 cs n) (kOf w3 sb nb lb eb limit ca so ro da cc n ids tape) (List.replicate n 0) (List.replicate n 0) (List.replicate n 0) (List.replicate n 0) 0 0 (.slice (some ⟨w3.heap.size, 0, none⟩) 0 m)) := RU.start ⟨HW2.out, HBg.out⟩ HEb.out HNn.out hn64 (by simp only [maxLen]; omega) hcs hci
  obtain ⟨k, hk⟩ : ∃ k, k = kOf w3 sb nb lb eb limit ca so ro da cc n ids tape := ⟨_, rfl⟩
  have HIds : Hid (k.c.ids = ids ∧ k.c.limit = limit ∧ k.tp = tape) := by { rw [hk]; exact ⟨rfl, rfl, rfl⟩ }
  have HKf : Hid (k.f3 = .int .i64 0 ∧ k.f4 = .int .i64 0 ∧ k.f5 = .slice none 0 0 ∧ k.f6 = .slice none 0 0) := by { rw [hk]; exact ⟨rfl, rfl, rfl, rfl⟩ }
  have e1 : sb = k.c.sb := by rw [hk]; rfl
  have e2 : lb = k.c.lb := by rw [hk]; rfl
  have e3 : ca = k.c.cao := by rw [hk]; rfl
  have e4 : cc = k.c.ccap := by rw [hk]; rfl
  have e5 : w3.heap.size + 1 = k.msb := by rw [hk]; rfl
  have e6 : k.msb + 1 = k.mrb := by rw [hk]; rfl
  have e7 : k.mrb + 1 = k.wtb := by rw [hk]; rfl
  have e8 : k.wtb + 1 = k.rsb := by rw [hk]; rfl
  have e9 : eb = k.e0 := by rw [hk]; rfl
  have e10 : da = k.ta := by rw [hk]; rfl
  have HE : Hid (sb = k.c.sb ∧ lb = k.c.lb ∧ ca = k.c.cao ∧ cc = k.c.ccap ∧ w3.heap.size + 1 = k.msb ∧ k.msb + 1 = k.mrb ∧ k.mrb + 1 = k.wtb ∧ k.wtb + 1 = k.rsb ∧ eb = k.e0 ∧ da = k.ta) := ⟨e1, e2, e3, e4, e5, e6, e7, e8, e9, e10⟩
  rw [← hk] at HSt
  clear HW2 HBg hcs hci hk e1 e2 e3 e4 e5 e6 e7 e8 e9 e10
  go_upto_block 0 with fail
  obtain ⟨W3, hW3⟩ : ∃ W3, W3 = wOf w3 cs n := ⟨_, rfl⟩
  rw [← hW3] at HSt
  unfold wOf at hW3
  rw [← hW3, HE.out.2.2.2.2.1, HE.out.2.2.2.2.2.1, HE.out.2.2.2.2.2.2.1, HE.out.2.2.2.2.2.2.2.1, HE.out.1, HE.out.2.1, HE.out.2.2.1, HE.out.2.2.2.1, HE.out.2.2.2.2.2.2.2.2.1, HE.out.2.2.2.2.2.2.2.2.2]
  obtain ⟨xb, hxb⟩ : ∃ xb, xb = w3.heap.size := ⟨_, rfl⟩
  rw [← hxb] at HSt ⊢
  clear hW3 hxb HE hrx hmk hmw HEb hB cs w3 sb lb ca cc eb da so ro
  have HOall : Hid (∀ (W' : World), Kept w W' (fun _ => False) → OV W' oa ops) := fun W' hk => HO.out.kept hk (fun _ _ _ q => q)
  clear HO
  go_cut [15] from 84 to 253 (fun a wx => ∃ (xa : Option Addr) (xn xc : Nat), a = .slice xa xn xc ∧ Hid (RQ B w wx k ids ops m (.slice xa xn xc)))
  case rest =>
    obtain ⟨xa, xn, xc, rfl, HR⟩ := hcut
    rename_i hK
    refine hK _ _ ?_
    apply @rest_ok B w k ids tape limit ops n m l dc xa xn xc wc <;> assumption
  go_wp2_with fail
  go_loopw [15, 20] (fun a b wr => ∃ (q : Nat) (xa : Option Addr) (xn xc : Nat), q ≤ m ∧ a = .slice xa xn xc ∧ b = .int .i64 q ∧ Hid (RQ B w wr k ids ops q (.slice xa xn xc))) (fun _ b _ => m - (intOf b).toNat)
  case atStart =>
    refine ⟨0, _, _, _, Nat.zero_le _, rfl, rfl, ?_⟩
    have h := HSt.out
    rw [HNn.out] at h
    exact h
  case round =>
    clear HSt
    obtain ⟨q, xa, xn, xc, hq, rfl, rfl, HR⟩ := hrel
    by_cases hlt : q < m
    · obtain ⟨o, ho⟩ : ∃ o, ops[q]? = some o := ⟨_, List.getElem?_eq_getElem (by rw [← HNm.out]; exact hlt)⟩
      obtain ⟨b1, o1, q1, c0, c1, c2, c3, c4, c5⟩ := (HOall.out wr HR.out.kp).at ho
      subst q1
      obtain ⟨kd, a, b, rt, out, inn⟩ := o
      dsimp only at c0 c1 c2 c3 c4 c5
      have Hg : Hid (good ids ⟨kd, a, b, rt, out, inn⟩) := HP.out.1 _ (List.mem_of_getElem? ho)
      have Ho := Hid.mk'' ho
      have i1 : (q : Int) < (m : Int) := by omega
      clear ho
      go_upto_block 2 with fail
      obtain ⟨pb, hpb⟩ : ∃ pb, pb = wr.heap.size := ⟨_, rfl⟩
      obtain ⟨W1, hW1⟩ : ∃ W1, W1 = wr.alloc (.cells #[.int .i64 kd, .int .i64 a, .int .i64 b, .int .i64 rt, .int .i64 out, .int .i64 inn] 36) := ⟨_, rfl⟩
      obtain ⟨s, hs⟩ : ∃ s, s = (stt ids (ops.take q)).1 := ⟨_, rfl⟩
      obtain ⟨r, hr⟩ : ∃ r, r = (stt ids (ops.take q)).2 := ⟨_, rfl⟩
      have hsl : s.length = n := by rw [hs, HNn.out]; exact (stt_length _ _).1
      have hrl : r.length = n := by rw [hr, HNn.out]; exact (stt_length _ _).2
      have HU : Hid (RU B w W1 k s r s r q q (.slice xa xn xc)) := by rw [hW1, hs, hr]; exact HR.out.alloc _
      have HBp : Hid (Blk W1 pb 36 #[.int .i64 kd, .int .i64 a, .int .i64 b, .int .i64 rt, .int .i64 out, .int .i64 inn]) := by rw [hW1]; exact Blk.new' hpb.symm 36 _
      have HNX : Hid (∀ (W' : World) (s' r' : List Int) (xv : Value), nxt ids (s, r) ⟨kd, a, b, rt, out, inn⟩ = (s', r') → RU B w W' k s' r' s' r' (q + 1) (q + 1) xv → RQ B w W' k ids ops (q + 1) xv) := by
        intro W' s' r' xv hn h
        show RU _ _ _ _ _ _ _ _ _ _ _
        have e : stt ids (ops.take (q + 1)) = (s', r') := by rw [stt_next ids ops q _ Ho.out, ← hn, hs, hr]
        rw [e]
        exact h
      rw [← hW1, ← hpb]
      clear hW1 hpb hs hr HR c0 c1 c2 c3 c4 c5 HOall Ho
      go_cut [15] from 84 to 253 (fun x wx => ∃ (ya : Option Addr) (yn yc : Nat), x = .slice ya yn yc ∧ Hid (RQ B w wx k ids ops (q + 1) (.slice ya yn yc)))
      case first =>
        by_cases hk0 : kd = 0
        · subst hk0
          apply @sw_k0 B w k ids tape limit ops n q a b rt out inn xa xn xc pb W1 s r <;> first | assumption | omega | exact (fun _ _ d _ _ h => by cases d <;> exact h)
        by_cases hk1 : kd = 1
        · subst hk1
          by_cases hr2 : rt = 2
          · subst hr2
            apply @sw_r2 B w k ids tape limit ops n q a b out inn xa xn xc pb W1 s r <;> first | assumption | omega | exact (fun _ _ d _ _ h => by cases d <;> exact h)
          by_cases hr0 : rt = 0
          · subst hr0
            apply @sw_r0 B w k ids tape limit ops n q a b out inn xa xn xc pb W1 s r <;> first | assumption | omega | exact (fun _ _ d _ _ h => by cases d <;> exact h)
          by_cases hr1 : rt = 1
          · subst hr1
            apply @sw_r1 B w k ids tape limit ops n q a b out inn xa xn xc pb W1 s r <;> first | assumption | omega | exact (fun _ _ d _ _ h => by cases d <;> exact h)
          exact absurd Hg.out (by { rintro (h | h | h); exact absurd h.1 (show ¬ (1 : Int) = 0 by decide); exact h.2.elim hr2 (fun e => e.1.elim hr0 hr1); exact absurd h.1 (show ¬ (1 : Int) = 2 by decide) })
        by_cases hk2 : kd = 2
        · subst hk2
          apply @sw_k2 B w k ids tape limit ops n q a b rt out inn xa xn xc pb W1 s r <;> first | assumption | omega | exact (fun _ _ d _ _ h => by cases d <;> exact h)
        exact absurd Hg.out (by { rintro (h | h | h); exact hk0 h.1; exact hk1 h.1; exact hk2 h.1 })
      case rest =>
        obtain ⟨ya, yn, yc, rfl, HR2⟩ := hcut
        clear HU HBp HNX Hg
        obtain ⟨la, ln, lc, cl, hlk⟩ := RU.look HR2.out (by omega)
        have Hlk := Hid.mk'' hlk
        obtain ⟨fp, fq, hfr⟩ := HR2.out.rs
        have fr0 := hfr.frozen
        have fr1 : wc.cell? ⟨k.rsb, 0, none⟩ = some (.bool fp) := hfr.cell 0
        clear hlk hfr
        go_upto_if 252 with (first | (go_at_call 19; refine Hlk.out.mono ?_; rintro e w9 ⟨⟨ok, rfl⟩, nq, rfl⟩) | fail)
        cases ok
        · go_wp2_with fail
          go_roundw
          case rel => exact ⟨q + 1, _, _, _, by omega, rfl, by go_num, (HR2.out.drewN nq).setF 0 (.inl rfl)⟩
          case measure => simp [intOf]; omega
        · go_wp2_with fail
          go_roundw
          case rel => exact ⟨q + 1, _, _, _, by omega, rfl, by go_num, HR2.out.drewN nq⟩
          case measure => simp [intOf]; omega
    · obtain rfl : q = m := by omega
      have i1 : ¬ (q : Int) < (q : Int) := by omega
      go_wp2_with fail
      go_meet
      exact ⟨_, _, _, rfl, HR.out⟩
end Go.Proofs.Qxb6003861aFmt
