import Derived.Test.Qxb6003713aFmtAnG
namespace Go.Proofs.Qxb6003713aFmt
open Go.RowKit
set_option linter.unusedVariables false
set_option linter.unusedSimpArgs false

/-- The tunnel's words, as they came in. -/
structure PI where
  fl : Nat
  tt : Nat
  lb : Nat
  tid : List UInt8

/-- A tunnel that a pointer shows. -/
def PMV (w : World) (pp : Option Addr) : Option PI → Prop
  | none => pp = none
  | some q => ∃ pb po ta tc, pp = some ⟨pb, po, none⟩ ∧ w.cell? ⟨pb, po, none⟩ = some (.int .u8 q.fl) ∧ w.cell? ⟨pb, po + 1, none⟩ = some (.int .u8 q.tt) ∧ w.cell? ⟨pb, po + 2, none⟩ = some (.int .u32 q.lb) ∧ w.cell? ⟨pb, po + 3, none⟩ = some (.slice ta q.tid.length tc) ∧ View w ta (bc q.tid) ∧ (ta = none → q.tid = [])

def hdl (x : Nat) : Nat := if 255 < x then 4 else 3
def wkLen (la pa : Nat) (a4 : Bool) : Nat := if la = pa then 14 else if a4 then 13 else if la ≤ 65535 then 11 else 20
def coLen (nc : Nat) : Nat := if nc = 0 then 0 else hdl (8 * nc) + 8 * nc
def pmLen : Option PI → Nat
  | none => 0
  | some q => hdl (5 + q.tid.length) + (5 + q.tid.length)
/-- The room that is left for routes. -/
def roomOf (n nc : Nat) (pm : Option PI) (la pa : Nat) (a4 : Bool) : Int := 4069 - (5 + n : Nat) - (wkLen la pa a4 + coLen nc + pmLen pm : Nat)

theorem hdr_c (x : Int) (k : Nat) (w : World) (hk : x = k) : Calls Tryf.prog 34 #[.int .i64 x] w fun e w' => e = .returned (.int .i64 (hdl k : Nat)) ∧ w' = w := by
  subst hk
  refine (hdr_any _ w).mono ?_
  rintro e w' ⟨rfl, rfl⟩
  refine ⟨?_, rfl⟩
  unfold hdl
  by_cases h : 255 < k
  · rw [if_pos h, if_pos (by omega)]; rfl
  · rw [if_neg h, if_neg (by omega)]; rfl
theorem hdl_le (x : Nat) : hdl x ≤ 4 := by unfold hdl; split <;> omega

set_option maxRecDepth 100000 in
set_option maxHeartbeats 2000000 in
theorem room_any (n nc : Nat) (pp : Option Addr) (pm : Option PI) (la pa : Nat) (a4 : Bool) (w : World) (hn : n < 256) (hc : nc ≤ 4096) (hq : ∀ q, pm = some q → q.tid.length ≤ 4096) (hpm : PMV w pp pm) :
    Calls Tryf.prog 13 #[.int .u8 n, .int .i64 nc, .pointer pp, .agg #[.int .u32 la, .int .u32 pa, .bool a4]] w fun e w' => e = .returned (.int .i64 (roomOf n nc pm la pa a4)) ∧ Below w.heap.size w w' := by
  have HW := Hid.mk'' ((Below.refl w.heap.size w).alloc (Nat.le_refl _) (.cells #[.int .u32 la, .int .u32 pa, .bool a4] 44))
  have i1 : (n : Int) < 256 := by omega
  have i2 : (nc : Int) ≤ 4096 := by omega
  have i3 : ((hdl (8 * nc) : Nat) : Int) ≤ 4 := by have := hdl_le (8 * nc); omega
  cases pm with
  | none =>
    obtain rfl : pp = none := hpm
    clear hq
    by_cases hi : la = pa
    · subst hi
      by_cases hn0 : nc = 0
      · subst hn0
        have HE : Hid (roomOf n 0 none la la a4 = 4069 - (5 + (n : Int)) - 14) := by
          have ew : wkLen la la a4 = 14 := by unfold wkLen; rw [if_pos rfl]
          have ec : coLen 0 = 0 := rfl
          have ep : pmLen none = 0 := rfl
          show roomOf _ _ _ _ _ _ = _
          unfold roomOf
          rw [ew, ec, ep]
          omega
        go_enter Tryf.func13, Tryf.ntmps13
        go_wp2_with (first | fail)
        go_ret
        exact ⟨by rw [HE.out]; rfl, HW.out⟩
      · have HE : Hid (roomOf n nc none la la a4 = 4069 - (5 + (n : Int)) - (14 + ((hdl (8 * nc) : Nat) + 8 * (nc : Int)))) := by
          have ew : wkLen la la a4 = 14 := by unfold wkLen; rw [if_pos rfl]
          have ec : coLen nc = hdl (8 * nc) + 8 * nc := by unfold coLen; rw [if_neg hn0]
          have ep : pmLen none = 0 := rfl
          show roomOf _ _ _ _ _ _ = _
          unfold roomOf
          rw [ew, ec, ep]
          omega
        have hp : (0 : Int) < nc := by omega
        go_enter Tryf.func13, Tryf.ntmps13
        go_wp2_with (first | (go_at_call 34; refine (hdr_c _ (8 * nc) _ (by omega)).mono ?_; rintro e w1 ⟨rfl, rfl⟩; have htok := Hid.mk'' True.intro) | fail)
        go_ret
        exact ⟨by rw [HE.out]; rfl, HW.out⟩
    · cases a4
      · by_cases hle : la ≤ 65535
        · by_cases hn0 : nc = 0
          · subst hn0
            have HE : Hid (roomOf n 0 none la pa false = 4069 - (5 + (n : Int)) - 11) := by
              have ew : wkLen la pa false = 11 := by unfold wkLen; rw [if_neg hi, if_neg (by decide), if_pos hle]
              have ec : coLen 0 = 0 := rfl
              have ep : pmLen none = 0 := rfl
              show roomOf _ _ _ _ _ _ = _
              unfold roomOf
              rw [ew, ec, ep]
              omega
            have k1 : ¬ (la : Int) = (pa : Int) := by omega
            have k2 : (la : Int) ≤ 65535 := by omega
            clear hle
            clear hi
            go_enter Tryf.func13, Tryf.ntmps13
            go_wp2_with (first | fail)
            go_ret
            exact ⟨by rw [HE.out]; rfl, HW.out⟩
          · have HE : Hid (roomOf n nc none la pa false = 4069 - (5 + (n : Int)) - (11 + ((hdl (8 * nc) : Nat) + 8 * (nc : Int)))) := by
              have ew : wkLen la pa false = 11 := by unfold wkLen; rw [if_neg hi, if_neg (by decide), if_pos hle]
              have ec : coLen nc = hdl (8 * nc) + 8 * nc := by unfold coLen; rw [if_neg hn0]
              have ep : pmLen none = 0 := rfl
              show roomOf _ _ _ _ _ _ = _
              unfold roomOf
              rw [ew, ec, ep]
              omega
            have k1 : ¬ (la : Int) = (pa : Int) := by omega
            have k2 : (la : Int) ≤ 65535 := by omega
            clear hle
            clear hi
            have hp : (0 : Int) < nc := by omega
            go_enter Tryf.func13, Tryf.ntmps13
            go_wp2_with (first | (go_at_call 34; refine (hdr_c _ (8 * nc) _ (by omega)).mono ?_; rintro e w1 ⟨rfl, rfl⟩; have htok := Hid.mk'' True.intro) | fail)
            go_ret
            exact ⟨by rw [HE.out]; rfl, HW.out⟩
        · by_cases hn0 : nc = 0
          · subst hn0
            have HE : Hid (roomOf n 0 none la pa false = 4069 - (5 + (n : Int)) - 20) := by
              have ew : wkLen la pa false = 20 := by unfold wkLen; rw [if_neg hi, if_neg (by decide), if_neg hle]
              have ec : coLen 0 = 0 := rfl
              have ep : pmLen none = 0 := rfl
              show roomOf _ _ _ _ _ _ = _
              unfold roomOf
              rw [ew, ec, ep]
              omega
            have k1 : ¬ (la : Int) = (pa : Int) := by omega
            have k2 : ¬ (la : Int) ≤ 65535 := by omega
            clear hle
            clear hi
            go_enter Tryf.func13, Tryf.ntmps13
            go_wp2_with (first | fail)
            go_ret
            exact ⟨by rw [HE.out]; rfl, HW.out⟩
          · have HE : Hid (roomOf n nc none la pa false = 4069 - (5 + (n : Int)) - (20 + ((hdl (8 * nc) : Nat) + 8 * (nc : Int)))) := by
              have ew : wkLen la pa false = 20 := by unfold wkLen; rw [if_neg hi, if_neg (by decide), if_neg hle]
              have ec : coLen nc = hdl (8 * nc) + 8 * nc := by unfold coLen; rw [if_neg hn0]
              have ep : pmLen none = 0 := rfl
              show roomOf _ _ _ _ _ _ = _
              unfold roomOf
              rw [ew, ec, ep]
              omega
            have k1 : ¬ (la : Int) = (pa : Int) := by omega
            have k2 : ¬ (la : Int) ≤ 65535 := by omega
            clear hle
            clear hi
            have hp : (0 : Int) < nc := by omega
            go_enter Tryf.func13, Tryf.ntmps13
            go_wp2_with (first | (go_at_call 34; refine (hdr_c _ (8 * nc) _ (by omega)).mono ?_; rintro e w1 ⟨rfl, rfl⟩; have htok := Hid.mk'' True.intro) | fail)
            go_ret
            exact ⟨by rw [HE.out]; rfl, HW.out⟩
      · by_cases hn0 : nc = 0
        · subst hn0
          have HE : Hid (roomOf n 0 none la pa true = 4069 - (5 + (n : Int)) - 13) := by
            have ew : wkLen la pa true = 13 := by unfold wkLen; rw [if_neg hi, if_pos rfl]
            have ec : coLen 0 = 0 := rfl
            have ep : pmLen none = 0 := rfl
            show roomOf _ _ _ _ _ _ = _
            unfold roomOf
            rw [ew, ec, ep]
            omega
          have k1 : ¬ (la : Int) = (pa : Int) := by omega
          clear hi
          go_enter Tryf.func13, Tryf.ntmps13
          go_wp2_with (first | fail)
          go_ret
          exact ⟨by rw [HE.out]; rfl, HW.out⟩
        · have HE : Hid (roomOf n nc none la pa true = 4069 - (5 + (n : Int)) - (13 + ((hdl (8 * nc) : Nat) + 8 * (nc : Int)))) := by
            have ew : wkLen la pa true = 13 := by unfold wkLen; rw [if_neg hi, if_pos rfl]
            have ec : coLen nc = hdl (8 * nc) + 8 * nc := by unfold coLen; rw [if_neg hn0]
            have ep : pmLen none = 0 := rfl
            show roomOf _ _ _ _ _ _ = _
            unfold roomOf
            rw [ew, ec, ep]
            omega
          have k1 : ¬ (la : Int) = (pa : Int) := by omega
          clear hi
          have hp : (0 : Int) < nc := by omega
          go_enter Tryf.func13, Tryf.ntmps13
          go_wp2_with (first | (go_at_call 34; refine (hdr_c _ (8 * nc) _ (by omega)).mono ?_; rintro e w1 ⟨rfl, rfl⟩; have htok := Hid.mk'' True.intro) | fail)
          go_ret
          exact ⟨by rw [HE.out]; rfl, HW.out⟩
  | some q =>
    obtain ⟨pb, po, ta, tc, rfl, c0, c1, c2, c3, hV, hnil⟩ := hpm
    have i4 := hq q rfl
    have i6 : ((hdl (5 + q.tid.length) : Nat) : Int) ≤ 4 := by have := hdl_le (5 + q.tid.length); omega
    have i5 : (q.tid.length : Int) ≤ 4096 := by omega
    have c3' : (w.alloc (.cells #[.int .u32 la, .int .u32 pa, .bool a4] 44)).cell? ⟨pb, po + 3, none⟩ = some (.slice ta q.tid.length tc) := cell_later HW.out c3
    clear hq hV hnil c0 c1 c2 c3
    by_cases hi : la = pa
    · subst hi
      by_cases hn0 : nc = 0
      · subst hn0
        have HE : Hid (roomOf n 0 (some q) la la a4 = 4069 - (5 + (n : Int)) - (14 + ((hdl (5 + q.tid.length) : Nat) + (5 + (q.tid.length : Int))))) := by
          have ew : wkLen la la a4 = 14 := by unfold wkLen; rw [if_pos rfl]
          have ec : coLen 0 = 0 := rfl
          have ep : pmLen (some q) = hdl (5 + q.tid.length) + (5 + q.tid.length) := rfl
          show roomOf _ _ _ _ _ _ = _
          unfold roomOf
          rw [ew, ec, ep]
          omega
        go_enter Tryf.func13, Tryf.ntmps13
        go_wp2_with (first | (go_at_call 34; refine (hdr_c _ (5 + q.tid.length) _ (by omega)).mono ?_; rintro e w2 ⟨rfl, rfl⟩) | fail)
        go_ret
        exact ⟨by rw [HE.out]; rfl, HW.out⟩
      · have HE : Hid (roomOf n nc (some q) la la a4 = 4069 - (5 + (n : Int)) - ((14 + ((hdl (8 * nc) : Nat) + 8 * (nc : Int))) + ((hdl (5 + q.tid.length) : Nat) + (5 + (q.tid.length : Int))))) := by
          have ew : wkLen la la a4 = 14 := by unfold wkLen; rw [if_pos rfl]
          have ec : coLen nc = hdl (8 * nc) + 8 * nc := by unfold coLen; rw [if_neg hn0]
          have ep : pmLen (some q) = hdl (5 + q.tid.length) + (5 + q.tid.length) := rfl
          show roomOf _ _ _ _ _ _ = _
          unfold roomOf
          rw [ew, ec, ep]
          omega
        have hp : (0 : Int) < nc := by omega
        go_enter Tryf.func13, Tryf.ntmps13
        go_wp2_with (first | (go_at_call 34; have _tok := htok; refine (hdr_c _ (5 + q.tid.length) _ (by omega)).mono ?_; rintro e w2 ⟨rfl, rfl⟩) | (go_at_call 34; refine (hdr_c _ (8 * nc) _ (by omega)).mono ?_; rintro e w1 ⟨rfl, rfl⟩; have htok := Hid.mk'' True.intro) | fail)
        go_ret
        exact ⟨by rw [HE.out]; rfl, HW.out⟩
    · cases a4
      · by_cases hle : la ≤ 65535
        · by_cases hn0 : nc = 0
          · subst hn0
            have HE : Hid (roomOf n 0 (some q) la pa false = 4069 - (5 + (n : Int)) - (11 + ((hdl (5 + q.tid.length) : Nat) + (5 + (q.tid.length : Int))))) := by
              have ew : wkLen la pa false = 11 := by unfold wkLen; rw [if_neg hi, if_neg (by decide), if_pos hle]
              have ec : coLen 0 = 0 := rfl
              have ep : pmLen (some q) = hdl (5 + q.tid.length) + (5 + q.tid.length) := rfl
              show roomOf _ _ _ _ _ _ = _
              unfold roomOf
              rw [ew, ec, ep]
              omega
            have k1 : ¬ (la : Int) = (pa : Int) := by omega
            have k2 : (la : Int) ≤ 65535 := by omega
            clear hle
            clear hi
            go_enter Tryf.func13, Tryf.ntmps13
            go_wp2_with (first | (go_at_call 34; refine (hdr_c _ (5 + q.tid.length) _ (by omega)).mono ?_; rintro e w2 ⟨rfl, rfl⟩) | fail)
            go_ret
            exact ⟨by rw [HE.out]; rfl, HW.out⟩
          · have HE : Hid (roomOf n nc (some q) la pa false = 4069 - (5 + (n : Int)) - ((11 + ((hdl (8 * nc) : Nat) + 8 * (nc : Int))) + ((hdl (5 + q.tid.length) : Nat) + (5 + (q.tid.length : Int))))) := by
              have ew : wkLen la pa false = 11 := by unfold wkLen; rw [if_neg hi, if_neg (by decide), if_pos hle]
              have ec : coLen nc = hdl (8 * nc) + 8 * nc := by unfold coLen; rw [if_neg hn0]
              have ep : pmLen (some q) = hdl (5 + q.tid.length) + (5 + q.tid.length) := rfl
              show roomOf _ _ _ _ _ _ = _
              unfold roomOf
              rw [ew, ec, ep]
              omega
            have k1 : ¬ (la : Int) = (pa : Int) := by omega
            have k2 : (la : Int) ≤ 65535 := by omega
            clear hle
            clear hi
            have hp : (0 : Int) < nc := by omega
            go_enter Tryf.func13, Tryf.ntmps13
            go_wp2_with (first | (go_at_call 34; have _tok := htok; refine (hdr_c _ (5 + q.tid.length) _ (by omega)).mono ?_; rintro e w2 ⟨rfl, rfl⟩) | (go_at_call 34; refine (hdr_c _ (8 * nc) _ (by omega)).mono ?_; rintro e w1 ⟨rfl, rfl⟩; have htok := Hid.mk'' True.intro) | fail)
            go_ret
            exact ⟨by rw [HE.out]; rfl, HW.out⟩
        · by_cases hn0 : nc = 0
          · subst hn0
            have HE : Hid (roomOf n 0 (some q) la pa false = 4069 - (5 + (n : Int)) - (20 + ((hdl (5 + q.tid.length) : Nat) + (5 + (q.tid.length : Int))))) := by
              have ew : wkLen la pa false = 20 := by unfold wkLen; rw [if_neg hi, if_neg (by decide), if_neg hle]
              have ec : coLen 0 = 0 := rfl
              have ep : pmLen (some q) = hdl (5 + q.tid.length) + (5 + q.tid.length) := rfl
              show roomOf _ _ _ _ _ _ = _
              unfold roomOf
              rw [ew, ec, ep]
              omega
            have k1 : ¬ (la : Int) = (pa : Int) := by omega
            have k2 : ¬ (la : Int) ≤ 65535 := by omega
            clear hle
            clear hi
            go_enter Tryf.func13, Tryf.ntmps13
            go_wp2_with (first | (go_at_call 34; refine (hdr_c _ (5 + q.tid.length) _ (by omega)).mono ?_; rintro e w2 ⟨rfl, rfl⟩) | fail)
            go_ret
            exact ⟨by rw [HE.out]; rfl, HW.out⟩
          · have HE : Hid (roomOf n nc (some q) la pa false = 4069 - (5 + (n : Int)) - ((20 + ((hdl (8 * nc) : Nat) + 8 * (nc : Int))) + ((hdl (5 + q.tid.length) : Nat) + (5 + (q.tid.length : Int))))) := by
              have ew : wkLen la pa false = 20 := by unfold wkLen; rw [if_neg hi, if_neg (by decide), if_neg hle]
              have ec : coLen nc = hdl (8 * nc) + 8 * nc := by unfold coLen; rw [if_neg hn0]
              have ep : pmLen (some q) = hdl (5 + q.tid.length) + (5 + q.tid.length) := rfl
              show roomOf _ _ _ _ _ _ = _
              unfold roomOf
              rw [ew, ec, ep]
              omega
            have k1 : ¬ (la : Int) = (pa : Int) := by omega
            have k2 : ¬ (la : Int) ≤ 65535 := by omega
            clear hle
            clear hi
            have hp : (0 : Int) < nc := by omega
            go_enter Tryf.func13, Tryf.ntmps13
            go_wp2_with (first | (go_at_call 34; have _tok := htok; refine (hdr_c _ (5 + q.tid.length) _ (by omega)).mono ?_; rintro e w2 ⟨rfl, rfl⟩) | (go_at_call 34; refine (hdr_c _ (8 * nc) _ (by omega)).mono ?_; rintro e w1 ⟨rfl, rfl⟩; have htok := Hid.mk'' True.intro) | fail)
            go_ret
            exact ⟨by rw [HE.out]; rfl, HW.out⟩
      · by_cases hn0 : nc = 0
        · subst hn0
          have HE : Hid (roomOf n 0 (some q) la pa true = 4069 - (5 + (n : Int)) - (13 + ((hdl (5 + q.tid.length) : Nat) + (5 + (q.tid.length : Int))))) := by
            have ew : wkLen la pa true = 13 := by unfold wkLen; rw [if_neg hi, if_pos rfl]
            have ec : coLen 0 = 0 := rfl
            have ep : pmLen (some q) = hdl (5 + q.tid.length) + (5 + q.tid.length) := rfl
            show roomOf _ _ _ _ _ _ = _
            unfold roomOf
            rw [ew, ec, ep]
            omega
          have k1 : ¬ (la : Int) = (pa : Int) := by omega
          clear hi
          go_enter Tryf.func13, Tryf.ntmps13
          go_wp2_with (first | (go_at_call 34; refine (hdr_c _ (5 + q.tid.length) _ (by omega)).mono ?_; rintro e w2 ⟨rfl, rfl⟩) | fail)
          go_ret
          exact ⟨by rw [HE.out]; rfl, HW.out⟩
        · have HE : Hid (roomOf n nc (some q) la pa true = 4069 - (5 + (n : Int)) - ((13 + ((hdl (8 * nc) : Nat) + 8 * (nc : Int))) + ((hdl (5 + q.tid.length) : Nat) + (5 + (q.tid.length : Int))))) := by
            have ew : wkLen la pa true = 13 := by unfold wkLen; rw [if_neg hi, if_pos rfl]
            have ec : coLen nc = hdl (8 * nc) + 8 * nc := by unfold coLen; rw [if_neg hn0]
            have ep : pmLen (some q) = hdl (5 + q.tid.length) + (5 + q.tid.length) := rfl
            show roomOf _ _ _ _ _ _ = _
            unfold roomOf
            rw [ew, ec, ep]
            omega
          have k1 : ¬ (la : Int) = (pa : Int) := by omega
          clear hi
          have hp : (0 : Int) < nc := by omega
          go_enter Tryf.func13, Tryf.ntmps13
          go_wp2_with (first | (go_at_call 34; have _tok := htok; refine (hdr_c _ (5 + q.tid.length) _ (by omega)).mono ?_; rintro e w2 ⟨rfl, rfl⟩) | (go_at_call 34; refine (hdr_c _ (8 * nc) _ (by omega)).mono ?_; rintro e w1 ⟨rfl, rfl⟩; have htok := Hid.mk'' True.intro) | fail)
          go_ret
          exact ⟨by rw [HE.out]; rfl, HW.out⟩

end Go.Proofs.Qxb6003713aFmt
