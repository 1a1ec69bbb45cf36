import Derived.Test.Qxb6003861aFmtAdXf
import Derived.Test.Qxb6003861aFmtAdT
namespace Go.Proofs.Qxb6003861aFmt
open Go.RowKit
set_option linter.unusedVariables false
set_option linter.unusedSimpArgs false

theorem mxs_nonneg (l : List Int) : ∀ n, 0 ≤ mxs l n
  | 0 => Int.le_refl _
  | n + 1 => by
    have := mxs_nonneg l n
    simp only [mxs]
    split <;> omega
theorem mxs_ge (l : List Int) : ∀ n k, k < n → l.getD k 0 ≤ mxs l n
  | 0, k, h => absurd h (Nat.not_lt_zero _)
  | n + 1, k, h => by
    simp only [mxs]
    by_cases e : k = n
    · subst e; split <;> omega
    · have := mxs_ge l n k (by omega)
      split <;> omega
theorem mxs_le (l : List Int) (x : Int) (h0 : 0 ≤ x) : ∀ n, (∀ k, k < n → l.getD k 0 ≤ x) → mxs l n ≤ x
  | 0, _ => h0
  | n + 1, h => by
    simp only [mxs]
    have h1 := mxs_le l x h0 n (fun k hk => h k (by omega))
    have h2 := h n (by omega)
    split <;> omega
/-- The plain law: what was received is within the limit, or within what had been received before. -/
theorem rr_max {limit : Int} {r r' : List Int} {n : Nat} (h : RR limit r r' n) : mxs r' n ≤ if limit < mxs r n then mxs r n else limit := by
  have h0 := mxs_nonneg r n
  refine mxs_le r' _ (by split <;> omega) n (fun k hk => ?_)
  have h1 := h.2.1 k hk
  have h2 := mxs_ge r n k hk
  split <;> omega

theorem fits_drawn {l : List Int} (h : Fits l) (hr : ∀ x ∈ l, 0 ≤ x ∧ x < 18446744073709551616) : ∀ x ∈ l, Drawn x := by
  intro x hx
  refine ⟨(hr x hx).1, (hr x hx).2, fun n h1 h2 => ?_⟩
  obtain ⟨i, hi, rfl⟩ := List.getElem_of_mem hx
  have := h i hi n h1 h2
  simpa [List.getD, List.getElem?_eq_getElem hi] using this

set_option maxRecDepth 100000 in
set_option maxHeartbeats 4000000 in
theorem root_any (ao : Option Addr) (cap : Nat) (ids : List Int) (limit : Int) (oa : Option Addr) (oc : Nat) (ops : List DO) (ta : Option Addr) (tc : Nat) (tape : List Int) (w : World) (hV : View w ao (ic ids)) (ha : ao = none → ids = []) (hO : OV w oa ops) (hT : View w ta (uc tape)) (hta : ta = none → tape = []) (hl : InR limit) (htr : ∀ x ∈ tape, 0 ≤ x ∧ x < 18446744073709551616) :
    Calls Tryf.prog 4 #[.slice ao ids.length cap, .int .i64 limit, .slice oa ops.length oc, .slice ta tape.length tc] w (fun e w' => e = .returned (.bool true) ∧ Kept w w' (fun _ => False)) := by
  obtain ⟨n, hn⟩ : ∃ n, n = ids.length := ⟨_, rfl⟩
  have HNn := Hid.mk'' hn
  obtain ⟨m, hm⟩ : ∃ m, m = ops.length := ⟨_, rfl⟩
  have HNm := Hid.mk'' hm
  obtain ⟨l, hl'⟩ : ∃ l, l = tape.length := ⟨_, rfl⟩
  have HNl := Hid.mk'' hl'
  have HV := Hid.mk'' hV
  have HO := Hid.mk'' hO
  have HT := Hid.mk'' hT
  have Ha := Hid.mk'' ha
  have Hta := Hid.mk'' hta
  have Htr := Hid.mk'' htr
  have Hl := Hid.mk'' hl
  rw [← hn, ← hm, ← hl']
  clear hV hO hT ha hta htr hl hn hm hl'
  by_cases h1 : 64 < n
  · have i1 : (64 : Int) < (n : Int) := by omega
    go_enter Tryf.func4, Tryf.ntmps4
    go_wp2_with fail
    go_ret
    exact ⟨rfl, Kept.refl _ _⟩
  have i1 : ¬ (64 : Int) < (n : Int) := by omega
  by_cases h2 : 256 < m
  · have i2 : (256 : Int) < (m : Int) := by omega
    go_enter Tryf.func4, Tryf.ntmps4
    go_wp2_with fail
    go_ret
    exact ⟨rfl, Kept.refl _ _⟩
  have i2 : ¬ (256 : Int) < (m : Int) := by omega
  by_cases h3 : 64 < l
  · have i3 : (64 : Int) < (l : Int) := by omega
    go_enter Tryf.func4, Tryf.ntmps4
    go_wp2_with fail
    go_ret
    exact ⟨rfl, Kept.refl _ _⟩
  have i3 : ¬ (64 : Int) < (l : Int) := by omega
  have Htape : Hid (Calls Tryf.prog 5 #[.slice ta l tc] w (TapeAns tape w)) := by
    have h := tape_any ta tc tape w HT.out (by have := HNl.out; omega) Htr.out
    rw [← HNl.out] at h
    exact h
  have Hprem : Hid (Calls Tryf.prog 6 #[.slice ao n cap, .int .i64 limit, .slice oa m oc, .bool false, .bool true] w (Premd ids limit ops w)) := by
    have h := prem_any ao cap ids limit oa oc ops w HV.out (by have := HNn.out; omega) HO.out (by have := HNm.out; omega) Hl.out
    rw [← HNn.out, ← HNm.out] at h
    exact h
  go_enter Tryf.func4, Tryf.ntmps4
  go_upto_if 38 with (first | (go_at_call 5; refine Htape.out.mono ?_; rintro e w9 ⟨⟨b1, rfl, hb1⟩, hw9⟩; rw [hw9]; clear hw9 w9; have HB1 := Hid.mk'' hb1; clear hb1; cases b1) | (go_at_call 6; refine Hprem.out.mono ?_; rintro e w1 ⟨b2, rfl, hb2, hk2⟩; have HB2 := Hid.mk'' hb2; have HK2 := Hid.mk'' hk2; clear hb2 hk2; cases b2) | fail)
  · go_wp2_with fail
    go_ret
    exact ⟨rfl, Kept.refl _ _⟩
  · go_wp2_with fail
    go_ret
    exact ⟨rfl, HK2.out⟩
  have HPm : Hid (Prem ids limit ops) := HB2.out trivial
  have HDr : Hid (∀ x ∈ tape, Drawn x) := fits_drawn (HB1.out trivial) Htr.out
  have Hrun : Hid (Calls Tryf.prog 7 #[.slice ao n cap, .int .i64 limit, .slice oa m oc, .slice ta l tc] w1 (Ran w1 ids limit ops)) := by
    have h := run_any ao cap ids limit oa oc ops ta tc tape w1 (HV.out.kept HK2.out (fun _ _ _ q => q)) Ha.out (by have := HNn.out; omega) (HO.out.kept HK2.out (fun _ _ _ q => q)) (by have := HNm.out; omega) (HT.out.kept HK2.out (fun _ _ _ q => q)) Hta.out (by have := HNl.out; omega) HDr.out Hl.out HPm.out
    rw [← HNn.out, ← HNm.out, ← HNl.out] at h
    exact h
  obtain ⟨s, hs⟩ : ∃ s, s = (stt ids ops).1 := ⟨_, rfl⟩
  obtain ⟨r, hr⟩ : ∃ r, r = (stt ids ops).2 := ⟨_, rfl⟩
  have HLs : Hid (s.length = n ∧ r.length = n) := by { rw [hs, hr, HNn.out]; exact stt_length ids ops }
  have HRn : Hid (Calls Tryf.prog 7 #[.slice ao n cap, .int .i64 limit, .slice oa m oc, .slice ta l tc] w1 (fun e w' => ∃ (p q : Bool) (y1 y2 : Int) (r' : List Int) (msb : Nat) (pa : Option Addr) (pc : Nat), e = .returned (.agg #[.bool p, .bool q, .bool true, .int .i64 y1, .int .i64 y2, .slice (some ⟨msb, 0, none⟩) n n, .slice pa n pc]) ∧ (y1 = mxs s n ∧ y2 = mxs r' n ∧ Blk w' msb 3 (ic s).toArray ∧ View w' pa (ic r) ∧ RR limit r r' n ∧ Kept w1 w' (fun _ => False)))) := by
    refine Hrun.out.mono ?_
    rintro e w' ⟨p, q, r', msb, pa, pc, rfl, g1, g2, g3, g4⟩
    rw [← HNn.out, ← hs] 
    rw [← hs] at g1
    rw [← hr] at g2 g3
    rw [← HNn.out] at g3
    exact ⟨p, q, _, _, r', msb, pa, pc, rfl, rfl, rfl, g1, g2, g3, g4⟩
  clear Hrun HPm HDr HB1 HB2 Htape Hprem hs hr
  go_upto_region 4 with (first | (go_at_call 7; refine HRn.out.mono ?_; rintro e w2 ⟨p, q, y1, y2, r', msb, pa, pc, rfl, hh⟩; have HH := Hid.mk'' hh; clear hh) | fail)
  obtain ⟨W3, hW3⟩ : ∃ W3, W3 = w2.alloc (.cells #[.bool p, .bool q, .bool true, .int .i64 y1, .int .i64 y2, .slice (some ⟨msb, 0, none⟩) n n, .slice pa n pc] 31) := ⟨_, rfl⟩
  obtain ⟨xb, hxb⟩ : ∃ xb, xb = w2.heap.size := ⟨_, rfl⟩
  have hB : Blk W3 xb 31 #[.bool p, .bool q, .bool true, .int .i64 y1, .int .i64 y2, .slice (some ⟨msb, 0, none⟩) n n, .slice pa n pc] := by { rw [hW3]; exact Blk.new' hxb.symm 31 _ }
  have c2 : W3.cell? ⟨xb, 2, none⟩ = some (.bool true) := hB.cell 2
  have c3 : W3.cell? ⟨xb, 3, none⟩ = some (.int .i64 y1) := hB.cell 3
  have c4 : W3.cell? ⟨xb, 4, none⟩ = some (.int .i64 y2) := hB.cell 4
  have c5 : W3.cell? ⟨xb, 5, none⟩ = some (.slice (some ⟨msb, 0, none⟩) n n) := hB.cell 5
  have c6 : W3.cell? ⟨xb, 6, none⟩ = some (.slice pa n pc) := hB.cell 6
  have HM : Hid (∀ i, i < n → W3.cell? ⟨msb, i, none⟩ = some (.int .i64 (s.getD i 0))) := by
    intro i hi
    have hb := HH.out.2.2.1.alloc (.cells #[.bool p, .bool q, .bool true, .int .i64 y1, .int .i64 y2, .slice (some ⟨msb, 0, none⟩) n n, .slice pa n pc] 31)
    rw [← hW3] at hb
    rw [hb.cell]
    have := ic_get s i (by rw [HLs.out.1]; exact hi)
    simpa using this
  have HPa : Hid (∀ i, i < n → ∃ b off, pa = some ⟨b, off, none⟩ ∧ W3.cell? ⟨b, off + i, none⟩ = some (.int .i64 (r.getD i 0))) := by
    intro i hi
    have hv := HH.out.2.2.2.1.alloc (.cells #[.bool p, .bool q, .bool true, .int .i64 y1, .int .i64 y2, .slice (some ⟨msb, 0, none⟩) n n, .slice pa n pc] 31)
    rw [← hW3] at hv
    obtain ⟨b, off, e, _, hc⟩ := hv.at (j := i) (by rw [ic_length, HLs.out.2]; exact hi)
    exact ⟨b, off, e, hc i _ (ic_get r i (by rw [HLs.out.2]; exact hi))⟩
  have HK3 : Hid (Kept w W3 (fun _ => False)) := by { rw [hW3]; exact (HK2.out.trans HH.out.2.2.2.2.2).alloc _ }
  have HY : Hid (y1 = mxs s n ∧ y2 ≤ if limit < mxs r n then mxs r n else limit) := ⟨HH.out.1, by rw [HH.out.2.1]; exact rr_max HH.out.2.2.2.2.1⟩
  rw [← hW3, ← hxb]
  clear hW3 hxb hB HH HRn HK2
  go_wp2_with fail
  go_loopw [10, 11] (fun a b wx => ∃ (i : Nat), i ≤ n ∧ a = .int .i64 (mxs s i) ∧ b = .int .i64 i ∧ wx = W3) (fun _ b _ => n - (intOf b).toNat)
  case atStart => exact ⟨0, Nat.zero_le _, rfl, rfl, rfl⟩
  case round =>
    obtain ⟨i, hi, rfl, rfl, rfl⟩ := hrel
    by_cases hlt : i < n
    · have j1 : (i : Int) < (n : Int) := by omega
      have hc := HM.out i hlt
      obtain ⟨x, hx⟩ : ∃ x, x = s.getD i 0 := ⟨_, rfl⟩
      obtain ⟨a, ha⟩ : ∃ a, a = mxs s i := ⟨_, rfl⟩
      have HN : Hid ((if a < x then x else a) = mxs s (i + 1)) := by rw [hx, ha]; rfl
      rw [← hx] at hc
      rw [← ha]
      clear hx ha
      go_wp2_with fail
      go_roundw
      case rel => exact ⟨i + 1, by omega, by rw [HN.out], by go_num, by first | rfl | trivial⟩
      case measure => simp [intOf]; omega
    · have j1 : ¬ (i : Int) < (n : Int) := by omega
      obtain rfl : n = i := by omega
      rw [← HY.out.1]
      go_wp2_with fail
      clear j1
      go_loopw [12, 13] (fun a b wx => ∃ (i : Nat), i ≤ n ∧ a = .int .i64 (mxs r i) ∧ b = .int .i64 i ∧ wx = wr) (fun _ b _ => n - (intOf b).toNat)
      case atStart => exact ⟨0, Nat.zero_le _, rfl, rfl, rfl⟩
      case round =>
        obtain ⟨i, hi, rfl, rfl, rfl⟩ := hrel
        by_cases hlt : i < n
        · have j1 : (i : Int) < (n : Int) := by omega
          obtain ⟨b, off, e, hc⟩ := HPa.out i hlt
          subst e
          obtain ⟨x, hx⟩ : ∃ x, x = r.getD i 0 := ⟨_, rfl⟩
          obtain ⟨a, ha⟩ : ∃ a, a = mxs r i := ⟨_, rfl⟩
          have HN : Hid ((if a < x then x else a) = mxs r (i + 1)) := by rw [hx, ha]; rfl
          rw [← hx] at hc
          rw [← ha]
          clear hx ha
          go_wp2_with fail
          go_roundw
          case rel => exact ⟨i + 1, by omega, by rw [HN.out], by go_num, by first | rfl | trivial⟩
          case measure => simp [intOf]; omega
        · have j1 : ¬ (i : Int) < (n : Int) := by omega
          obtain rfl : n = i := by omega
          obtain ⟨y3, hy3⟩ : ∃ y3, y3 = mxs r n := ⟨_, rfl⟩
          have hle := HY.out.2
          rw [← hy3] at hle ⊢
          clear hy3
          by_cases hlim : limit < y3
          · rw [if_pos hlim] at hle
            go_wp2_with fail
            go_ret
            exact ⟨rfl, HK3.out⟩
          · rw [if_neg hlim] at hle
            go_wp2_with fail
            go_ret
            exact ⟨rfl, HK3.out⟩
end Go.Proofs.Qxb6003861aFmt
