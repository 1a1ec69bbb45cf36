import Derived.Test.Qxb6003725aRows
import Derived.Test.Qxb6003725aKit
import Derived.Lib.Varint
import Derived.Lib.VarintBits
namespace Go.Proofs.Qxb6003725a
open Go.RowKit

theorem pow128 (k : Nat) : 128 ^ k = 2 ^ (7 * k) := by rw [Nat.pow_mul]

/-- One round of the reader's arithmetic: seven bits more. -/
theorem step_val (x k : Nat) (hx : x < 18446744073709551616) (v y : Int) (hv : v = ((x % 128 ^ k : Nat) : Int)) (hy : y = ((x / 128 ^ k % 128 : Nat) : Int)) :
    bits .or .u64 v (IntKind.u64.wrap (y * 2 ^ (7 * k))) = ((x % 128 ^ (k + 1) : Nat) : Int) := by
  have hp : 0 < 2 ^ (7 * k) := Nat.pow_pos (by decide)
  have hle : x / 128 ^ k % 128 * 2 ^ (7 * k) ≤ x := by
    rw [pow128]
    have h1 : x / 2 ^ (7 * k) % 128 ≤ x / 2 ^ (7 * k) := Nat.mod_le _ _
    exact Nat.le_trans (Nat.mul_le_mul_right _ h1) (Nat.div_mul_le_self x _)
  have e2 : y * 2 ^ (7 * k) = ((x / 128 ^ k % 128 * 2 ^ (7 * k) : Nat) : Int) := by rw [hy]; simp
  rw [e2]
  have e3 : IntKind.u64.wrap ((x / 128 ^ k % 128 * 2 ^ (7 * k) : Nat) : Int) = ((x / 128 ^ k % 128 * 2 ^ (7 * k) : Nat) : Int) := by
    rw [IntKind.wrap_u64]
    generalize x / 128 ^ k % 128 * 2 ^ (7 * k) = t at *
    omega
  rw [e3]
  have hlt : x % 128 ^ k < 2 ^ (7 * k) := by rw [pow128]; exact Nat.mod_lt _ hp
  have hj := bits_join_low .u64 64 (by decide) wraps_u64 (7 * k) v ((x / 128 ^ k % 128 * 2 ^ (7 * k) : Nat) : Int) (by rw [hv]; omega) (by rw [hv]; exact_mod_cast hlt)
    (by
      rw [hv]
      have h3 : x % 128 ^ k ≤ x := Nat.mod_le _ _
      generalize x % 128 ^ k = t at *
      omega) (by omega) (by
      have : ((x / 128 ^ k % 128 * 2 ^ (7 * k) : Nat) : Int) % 2 ^ (7 * k) = ((x / 128 ^ k % 128 * 2 ^ (7 * k) % 2 ^ (7 * k) : Nat) : Int) := by simp
      rw [this, Nat.mul_mod_left]; rfl) (by
      generalize x / 128 ^ k % 128 * 2 ^ (7 * k) = t at *
      omega)
  rw [hj, hv]
  have e4 : x % 128 ^ (k + 1) = x % 128 ^ k + 128 ^ k * (x / 128 ^ k % 128) := by
    rw [Nat.pow_succ, Nat.mod_mul]
  rw [e4, pow128, Nat.mul_comm (2 ^ (7 * k))]
  simp

/-- What lies ahead of the reader, one byte on. -/
theorem ahead_small {L rest : List UInt8} {p x : Nat} (h : L.drop p = Lib.uvarint x ++ rest) (hx : x < 128) : p < L.length ∧ L[p]? = some x.toUInt8 := by
  rw [Lib.uvarint_small hx] at h
  have h0 : (L.drop p)[0]? = some x.toUInt8 := by rw [h]; rfl
  rw [List.getElem?_drop, Nat.add_zero] at h0
  exact ⟨(List.getElem?_eq_some_iff.1 h0).1, h0⟩
theorem ahead_big {L rest : List UInt8} {p x : Nat} (h : L.drop p = Lib.uvarint x ++ rest) (hx : 128 ≤ x) : p < L.length ∧ L[p]? = some (x % 128 + 128).toUInt8 ∧ L.drop (p + 1) = Lib.uvarint (x / 128) ++ rest := by
  rw [Lib.uvarint_big hx] at h
  have h0 : (L.drop p)[0]? = some (x % 128 + 128).toUInt8 := by rw [h]; rfl
  rw [List.getElem?_drop, Nat.add_zero] at h0
  refine ⟨(List.getElem?_eq_some_iff.1 h0).1, h0, ?_⟩
  rw [← List.drop_drop, h]; rfl

set_option maxHeartbeats 1000000 in
theorem readUvarint_any (ao : Option Addr) (n cap : Nat) (L rest : List UInt8) (q X : Int) (w : World) (hq : 0 ≤ q) (hX0 : 0 ≤ X) (hX : X < 18446744073709551616) (hn : L.length = n) (hL : n ≤ 1000000000000)
    (hV : View w ao (bc L)) (hd : L.drop q.toNat = Lib.uvarint X.toNat ++ rest) :
    Calls Try.prog 24 #[.slice ao n cap, .int .i64 q] w fun e w' => e = .returned (.tuple #[.int .u64 X, .int .i64 (q + (Lib.uvarint X.toNat).length), .bool true]) ∧ w' = w := by
  have HX : Hid (X.toNat < 18446744073709551616) := by unfold Hid; omega
  have HD : Hid (L.drop q.toNat = Lib.uvarint X.toNat ++ rest) := hd
  clear hd
  go_enter Try.func24, Try.ntmps24
  go_wp2
  go_loop [1, 7, 8, 9] (fun ps v sh i => ∃ (k : Nat) (vv : Int), k ≤ 9 ∧ ps = .int .i64 (q + k) ∧ v = .int .u64 vv ∧ sh = .int .u64 (7 * (k : Int)) ∧ i = .int .i64 k ∧ Hid (vv = ((X.toNat % 128 ^ k : Nat) : Int)) ∧ Hid (L.drop (q.toNat + k) = Lib.uvarint (X.toNat / 128 ^ k) ++ rest) ∧ Hid ((Lib.uvarint X.toNat).length = k + (Lib.uvarint (X.toNat / 128 ^ k)).length))
    (fun _ _ _ i => 10 - (intOf i).toNat)
  case atStart => exact ⟨0, 0, by omega, by simp, rfl, by simp, rfl, by simp [Hid, Nat.mod_one], by simpa [Hid] using HD.out, by simp [Hid]⟩
  case round =>
    obtain ⟨k, vv, hk, rfl, rfl, rfl, rfl, hvv, hdk, hlk⟩ := hrel
    by_cases hsm : X.toNat / 128 ^ k < 128
    · obtain ⟨hpl, hpc⟩ := ahead_small hdk.out hsm
      obtain ⟨b, off, qa, _, hcell⟩ := hV.at (j := q.toNat + k) (by rw [bc_length]; exact hpl)
      cases qa
      obtain ⟨c, hc⟩ : ∃ c : Int, c = ((X.toNat / 128 ^ k : Nat) : Int) := ⟨_, rfl⟩
      have hc0 : 0 ≤ c := by rw [hc]; exact Int.natCast_nonneg _
      have hc1 : c < 128 := by rw [hc]; exact_mod_cast hsm
      have hcc : w.cell? ⟨b, off + (q + k).toNat, none⟩ = some (.int .u8 c) := by
        rw [show (q + k).toNat = q.toNat + k by omega]
        refine hcell _ _ ?_
        rw [bc, List.getElem?_map, hpc, Option.map_some, show (X.toNat / 128 ^ k).toUInt8.toNat = X.toNat / 128 ^ k % 256 from rfl, hc]
        congr 2
        omega
      have hand : bits .and .u8 c 127 = c := by rw [u8_and127 c hc0 (by omega)]; omega
      have hst := step_val X.toNat k HX.out vv c hvv.out (by rw [hc]; congr 1; omega)
      have i1 : (0 : Int) ≤ q + k := by omega
      have i2 : q + (k : Int) < (n : Int) := by omega
      have HF : Hid (bits .or .u64 vv (IntKind.u64.wrap (c * 2 ^ (7 * k))) = X) := by
        unfold Hid; rw [hst]
        have : X.toNat / 128 ^ (k + 1) = 0 := by rw [Nat.pow_succ, ← Nat.div_div_eq_div_mul]; omega
        have h2 := Nat.div_add_mod X.toNat (128 ^ (k + 1))
        rw [this, Nat.mul_zero, Nat.zero_add] at h2
        rw [h2]; omega
      have HL : Hid ((Lib.uvarint X.toNat).length = k + 1) := by
        unfold Hid; rw [hlk.out, Lib.uvarint_small hsm]; rfl
      clear hst hcell hpc hlk hdk hvv hc hsm
      go_wp2
      go_ret3
      exact ⟨by
        show Ending.returned (.tuple #[.int .u64 (bits .or .u64 vv (IntKind.u64.wrap (c * 2 ^ (7 * k)))), .int .i64 (q + (k : Int) + 1), .bool true]) = _
        rw [HF.out, HL.out]
        simp; omega, rfl⟩
    · obtain ⟨hpl, hpc, hnx⟩ := ahead_big hdk.out (by omega)
      obtain ⟨b, off, qa, _, hcell⟩ := hV.at (j := q.toNat + k) (by rw [bc_length]; exact hpl)
      cases qa
      obtain ⟨y, hy⟩ : ∃ y : Int, y = ((X.toNat / 128 ^ k % 128 : Nat) : Int) := ⟨_, rfl⟩
      have hy0 : 0 ≤ y := by rw [hy]; exact Int.natCast_nonneg _
      have hy1 : y < 128 := by rw [hy]; exact_mod_cast Nat.mod_lt _ (by decide)
      have hcc : w.cell? ⟨b, off + (q + k).toNat, none⟩ = some (.int .u8 (y + 128)) := by
        rw [show (q + k).toNat = q.toNat + k by omega]
        refine hcell _ _ ?_
        rw [bc, List.getElem?_map, hpc, Option.map_some, show (X.toNat / 128 ^ k % 128 + 128).toUInt8.toNat = (X.toNat / 128 ^ k % 128 + 128) % 256 from rfl, hy]
        congr 2
        omega
      have hand : bits .and .u8 (y + 128) 127 = y := by rw [u8_and127 _ (by omega) (by omega)]; omega
      have hst := step_val X.toNat k HX.out vv y hvv.out hy
      have i1 : (0 : Int) ≤ q + k := by omega
      have i2 : q + (k : Int) < (n : Int) := by omega
      have hk9 : k ≤ 8 := by
        rcases Nat.lt_or_ge k 9 with h | h
        · omega
        · obtain rfl : k = 9 := by omega
          have h1 := HX.out
          have h2 : X.toNat / 128 ^ 9 < 128 := by
            rw [Nat.div_lt_iff_lt_mul (by decide)]
            have : 128 * 128 ^ 9 = 1180591620717411303424 := by decide
            omega
          omega
      have HF : Hid (bits .or .u64 vv (IntKind.u64.wrap (y * 2 ^ (7 * k))) = ((X.toNat % 128 ^ (k + 1) : Nat) : Int)) := hst
      have e1 : X.toNat / 128 ^ (k + 1) = X.toNat / 128 ^ k / 128 := by rw [Nat.pow_succ, ← Nat.div_div_eq_div_mul]
      have HL : Hid ((Lib.uvarint X.toNat).length = (k + 1) + (Lib.uvarint (X.toNat / 128 ^ (k + 1))).length) := by
        unfold Hid; rw [hlk.out, e1, Lib.uvarint_big (x := X.toNat / 128 ^ k) (by omega)]; simp; omega
      have HN : Hid (L.drop (q.toNat + (k + 1)) = Lib.uvarint (X.toNat / 128 ^ (k + 1)) ++ rest) := by
        unfold Hid; rw [e1]; exact hnx
      clear hst hcell hpc hlk hdk hvv hy hsm hnx e1
      go_wp2
      go_round
      case rel => exact ⟨k + 1, _, by omega, by go_num, rfl, by go_num, by go_num, HF, HN, HL⟩
      case measure => simp [intOf]; omega

end Go.Proofs.Qxb6003725a
