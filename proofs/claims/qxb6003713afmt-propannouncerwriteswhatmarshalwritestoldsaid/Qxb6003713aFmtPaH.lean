import Derived.Test.Qxb6003713aFmtPaG
namespace Go.Proofs.Qxb6003713aFmt
open Go.RowKit
set_option linter.unusedVariables false
set_option linter.unusedSimpArgs false

theorem hdr_any (x : Int) (w : World) : Calls Tryf.prog 34 #[.int .i64 x] w fun e w' => e = .returned (.int .i64 (if 255 < x then 4 else 3)) ∧ w' = w := by
  by_cases h : 255 < x
  · rw [if_pos h]
    go_enter Tryf.func34, Tryf.ntmps34
    go_wp2
    go_ret
    exact ⟨rfl, rfl⟩
  · rw [if_neg h]
    go_enter Tryf.func34, Tryf.ntmps34
    go_wp2
    go_ret
    exact ⟨rfl, rfl⟩

/-- The Optional and Transitive bits of an attribute's type. -/
def flagOf (c : Nat) : Int := if c = 1 ∨ c = 2 ∨ c = 5 then 64 else if c = 4 ∨ c = 14 ∨ c = 15 then 128 else if c = 16 ∨ c = 17 ∨ c = 22 then 192 else 0

set_option maxHeartbeats 1000000 in
theorem flags_any (c : Nat) (w : World) (hc : c < 256) : Calls Tryf.prog 48 #[.int .u8 c] w fun e w' => e = .returned (.int .u8 (flagOf c)) ∧ w' = w := by
  by_cases h : c = 1 ∨ c = 2 ∨ c = 5 ∨ c = 4 ∨ c = 14 ∨ c = 15 ∨ c = 16 ∨ c = 17 ∨ c = 22
  · rcases h with rfl | rfl | rfl | rfl | rfl | rfl | rfl | rfl | rfl
    all_goals
      go_enter Tryf.func48, Tryf.ntmps48
      go_wp2
      go_ret
      exact ⟨rfl, rfl⟩
  · have e : flagOf c = 0 := by
      unfold flagOf
      rw [if_neg (by omega), if_neg (by omega), if_neg (by omega)]
    rw [e]
    have k1 : ¬ (c : Int) = 1 := by omega
    have k2 : ¬ (c : Int) = 2 := by omega
    have k3 : ¬ (c : Int) = 5 := by omega
    have k4 : ¬ (c : Int) = 4 := by omega
    have k5 : ¬ (c : Int) = 14 := by omega
    have k6 : ¬ (c : Int) = 15 := by omega
    have k7 : ¬ (c : Int) = 16 := by omega
    have k8 : ¬ (c : Int) = 17 := by omega
    have k9 : ¬ (c : Int) = 22 := by omega
    clear h
    go_enter Tryf.func48, Tryf.ntmps48
    go_wp2
    go_ret
    exact ⟨rfl, rfl⟩

theorem i64_join (hi lo : Int) (h0 : 0 ≤ hi) (h1 : hi < 256) (l0 : 0 ≤ lo) (l1 : lo < 256) : bits .or .i64 (hi * 256) lo = hi * 256 + lo := by
  obtain ⟨a, rfl⟩ := Int.eq_ofNat_of_zero_le h0
  obtain ⟨b, rfl⟩ := Int.eq_ofNat_of_zero_le l0
  have e : ((a : Int) * 256) = ((a * 256 : Nat) : Int) := by omega
  rw [e]
  show IntKind.i64.wrap ((BitVec.ofInt 64 ((a * 256 : Nat) : Int) ||| BitVec.ofInt 64 (b : Int)).toNat : Int) = _
  rw [BitVec.toNat_or, ofInt_u64 (a * 256) (by omega), ofInt_u64 b (by omega), nat_join 8 (a * 256) b (by omega) (by omega), IntKind.wrap_i64]
  omega

/-- Two octets at i. -/
theorem be16_any (b off n cap i : Nat) (hi lo : Int) (w : World) (hn : i + 1 < n) (hnm : n ≤ 1000000) (h0 : 0 ≤ hi) (h1 : hi < 256) (l0 : 0 ≤ lo) (l1 : lo < 256) (hc0 : w.cell? ⟨b, off + i, none⟩ = some (.int .u8 hi)) (hc1 : w.cell? ⟨b, off + (i + 1), none⟩ = some (.int .u8 lo)) :
    Calls Tryf.prog 47 #[.slice (some ⟨b, off, none⟩) n cap, .int .i64 i] w fun e w' => e = .returned (.int .i64 (hi * 256 + lo)) ∧ ∃ nq, w' = w.drewN nq := by
  have i0 : (0 : Int) ≤ (i : Int) := by omega
  have i1 : (i : Int) < (n : Int) := by omega
  have i2 : (i : Int) + 1 < (n : Int) := by omega
  have i3 : (0 : Int) ≤ (i : Int) + 1 := by omega
  have j1 := i64_join hi lo h0 h1 l0 l1
  have j2 : ((i : Int) + 1).toNat = i + 1 := by omega
  have j3 : IntKind.i64.wrap ((i : Int) + 1) = (i : Int) + 1 := by rw [IntKind.wrap_i64]; omega
  have j4 : IntKind.i64.wrap (hi * 256) = hi * 256 := by rw [IntKind.wrap_i64]; omega
  go_enter Tryf.func47, Tryf.ntmps47
  go_wp2_with fail
  go_quiet (fail)
  go_wp2
  go_ret
  exact ⟨by simp, _, rfl⟩

theorem at_any (g n1 c1 : Nat) (M : List UInt8) (a2 : Option Addr) (n2 c2 : Nat) (s : List UInt8) (pos : Nat) (w : World) (hn1 : M.length = n1) (hn2 : s.length = n2) (hl1 : n1 ≤ 1000000) (hfit : pos + n2 ≤ n1) (h1 : View w (some ⟨g, 0, none⟩) (bc M)) (h2 : View w a2 (bc s)) (heq : ∀ j, j < n2 → M[pos + j]? = s[j]?) :
    Calls Tryf.prog 49 #[.slice (some ⟨g, 0, none⟩) n1 c1, .int .i64 pos, .slice a2 n2 c2] w fun e w' => e = .returned (.bool true) ∧ ∃ nq, w' = w.drewN nq := by
  have H1 : Hid (View w (some ⟨g, 0, none⟩) (bc M)) := h1
  have H2 : Hid (View w a2 (bc s)) := h2
  have HE : Hid (∀ j, j < n2 → M[pos + j]? = s[j]?) := heq
  have HN1 : Hid (M.length = n1) := hn1
  have HN2 : Hid (s.length = n2) := hn2
  clear h1 h2 heq hn1 hn2
  go_enter Tryf.func49, Tryf.ntmps49
  go_wp2
  go_loopw [7] (fun i wr => ∃ (k nq : Nat), k ≤ n2 ∧ i = .int .i64 k ∧ wr = w.drewN nq) (fun i _ => n2 - (intOf i).toNat)
  case atStart => exact ⟨0, 0, Nat.zero_le _, rfl, rfl⟩
  case round =>
    obtain ⟨k, nq, hk, rfl, rfl⟩ := hrel
    by_cases hlt : k < n2
    · obtain ⟨b1, o1, q1, _, hc1⟩ := H1.out.at (j := pos + k) (by rw [bc_length, HN1.out]; omega)
      cases q1
      obtain ⟨b2, o2, q2, _, hc2⟩ := H2.out.at (j := k) (by rw [bc_length, HN2.out]; omega)
      cases q2
      obtain ⟨z, hz⟩ : ∃ z : Int, (bc s)[k]? = some (.int .u8 z) := ⟨_, bc_get s k (by rw [HN2.out]; omega)⟩
      have hz1 : (bc M)[pos + k]? = some (.int .u8 z) := by
        rw [← hz]
        unfold bc
        rw [List.getElem?_map, List.getElem?_map, HE.out k hlt]
      have d1 := hc1 (pos + k) _ hz1
      rw [Nat.zero_add] at d1
      have d2 := hc2 k _ hz
      have i1 : (0 : Int) ≤ (k : Int) := by omega
      have i2 : (k : Int) < (n2 : Int) := by omega
      have i3 : (0 : Int) ≤ (pos : Int) + (k : Int) := by omega
      have i4 : (pos : Int) + (k : Int) < (n1 : Int) := by omega
      have j3 : IntKind.i64.wrap ((pos : Int) + (k : Int)) = (pos : Int) + (k : Int) := by rw [IntKind.wrap_i64]; omega
      have j2 : ((pos : Int) + (k : Int)).toNat = pos + k := by omega
      clear hc1 hc2 hz hz1
      go_wp2_with fail
      go_quiet (fail)
      go_wp2
      go_roundw
      case rel => exact ⟨k + 1, _, by omega, by go_num, rfl⟩
      case measure => simp [intOf]; omega
    · go_wp2
      go_ret
      exact ⟨rfl, nq, rfl⟩

end Go.Proofs.Qxb6003713aFmt
