import Derived.Test.Qxb6003778aFmtAnG
namespace Go.Proofs.Qxb6003778aFmt
open Go.RowKit
set_option linter.unusedVariables false
set_option linter.unusedSimpArgs false

/-! What was written is what is read. -/
theorem by8_toNat (x : Nat) (h : x < 256) : (by8 (x : Int)).toNat = x := by
  have := by8_nat (x : Int) (by omega) (by omega)
  omega

theorem be4_b4 (v : Nat) (hv : v < 4294967296) (b : Nat → UInt8) (h : ∀ i, i < 4 → b i = (b4 v).getD i 0) : be4 b = v := by
  have h0 := h 0 (by omega)
  have h1 := h 1 (by omega)
  have h2 := h 2 (by omega)
  have h3 := h 3 (by omega)
  unfold be4
  rw [h0, h1, h2, h3]
  show (by8 _).toNat + (by8 _).toNat * 256 + (by8 _).toNat * 65536 + (by8 _).toNat * 16777216 = v
  rw [by8_toNat _ (by omega), by8_toNat _ (by omega), by8_toNat _ (by omega), by8_toNat _ (by omega)]
  omega

theorem be2_be16 (v : Nat) (hv : v < 65536) (b : Nat → UInt8) (h : ∀ i, i < 2 → b i = (be16 (v : Int)).getD i 0) : be2 b = v := by
  have h0 := h 0 (by omega)
  have h1 := h 1 (by omega)
  have e0 : ((v : Int) / 256) = ((v / 256 : Nat) : Int) := by omega
  have e1 : ((v : Int) % 256) = ((v % 256 : Nat) : Int) := by omega
  unfold be2
  rw [h0, h1]
  show (by8 ((v : Int) / 256)).toNat * 256 + (by8 ((v : Int) % 256)).toNat = v
  rw [e0, e1, by8_toNat _ (by omega), by8_toNat _ (by omega)]
  omega

theorem be8_b8 (v : Nat) (hv : v < 18446744073709551616) (b : Nat → UInt8) (h : ∀ i, i < 8 → b i = (b8 v).getD i 0) : be8 b = v := by
  have h0 := h 0 (by omega)
  have h1 := h 1 (by omega)
  have h2 := h 2 (by omega)
  have h3 := h 3 (by omega)
  have h4 := h 4 (by omega)
  have h5 := h 5 (by omega)
  have h6 := h 6 (by omega)
  have h7 := h 7 (by omega)
  unfold be8
  rw [h0, h1, h2, h3, h4, h5, h6, h7]
  show (by8 _).toNat + (by8 _).toNat * 256 + (by8 _).toNat * 65536 + (by8 _).toNat * 16777216 + (by8 _).toNat * 4294967296 + (by8 _).toNat * 1099511627776 + (by8 _).toNat * 281474976710656 + (by8 _).toNat * 72057594037927936 = v
  rw [by8_toNat _ (by omega), by8_toNat _ (by omega), by8_toNat _ (by omega), by8_toNat _ (by omega), by8_toNat _ (by omega), by8_toNat _ (by omega), by8_toNat _ (by omega), by8_toNat _ (by omega)]
  omega

/-- AddrFrom4 of the octets that AsSlice wrote is the address. -/
theorem lo4_b4 (o b : Nat → UInt8) (h : ∀ i, i < 4 → b i = (b4 (lo4 o % 4294967296)).getD i 0) : lo4 b = lo4 o := by
  have h0 := h 0 (by omega)
  have h1 := h 1 (by omega)
  have h2 := h 2 (by omega)
  have h3 := h 3 (by omega)
  obtain ⟨v, hv⟩ : ∃ v, v = lo4 o % 4294967296 := ⟨_, rfl⟩
  rw [← hv] at h0 h1 h2 h3
  have b0 := (o 0).toNat_lt
  have b1 := (o 1).toNat_lt
  have b2 := (o 2).toNat_lt
  have b3 := (o 3).toNat_lt
  have k0 : (b 0).toNat = v / 16777216 % 256 := by rw [h0]; exact by8_toNat _ (by omega)
  have k1 : (b 1).toNat = v / 65536 % 256 := by rw [h1]; exact by8_toNat _ (by omega)
  have k2 : (b 2).toNat = v / 256 % 256 := by rw [h2]; exact by8_toNat _ (by omega)
  have k3 : (b 3).toNat = v % 256 := by rw [h3]; exact by8_toNat _ (by omega)
  unfold lo4 at hv ⊢
  rw [k0, k1, k2, k3]
  omega

end Go.Proofs.Qxb6003778aFmt
