import Derived.Test.Qxb6003713aFmtPaP
namespace Go.Proofs.Qxb6003713aFmt
open Go.RowKit
set_option linter.unusedVariables false
set_option linter.unusedSimpArgs false

set_option maxRecDepth 100000 in
theorem free_any {w : World} {fl fy : Int} {cn : Nat} {fa : Option Addr} {fx : List UInt8} {aa : Option Addr} {av : List UInt8} {na : Option Addr} {L : List (List UInt8)}
    (hc : cn < 256) (hf0 : 0 ≤ fl) (hf : fl < 256) (hfl : flagOf cn = fl) (hx : bits .or .u8 fl 16 = fy) (hx0 : 0 ≤ fy) (hx1 : fy < 256) (hVf : View w fa (bc fx)) (hnf : fa = none → fx = []) (hVa : View w aa (bc av)) (hna : aa = none → av = [])
    (hL : LView w na L) (hnl : na = none → L = []) (hg : w.cell? ⟨5, cn, none⟩ = some (.int .u8 fl)) (h5 : 5 < w.heap.size) (cf ca nc : Nat) (hmf : fx.length ≤ 9223372036854775807) (hma : av.length ≤ 9223372036854775807) (hml : L.length ≤ 9223372036854775807) :
    Calls Tryf.prog 4 #[.int .u8 cn, .slice fa fx.length cf, .slice aa av.length ca, .slice na L.length nc] w fun e w' => e = .returned (.bool true) ∧ Below w.heap.size w w' := by
  by_cases c1 : 65536 < fx.length
  · have l1 : (65536 : Int) < (fx.length : Int) := by omega
    clear hL hVf hVa hg hfl hx hx0 hx1 hf0 hf hmf hma hml c1
    go_enter Tryf.func4, Tryf.ntmps4
    go_wp2
    go_ret
    exact ⟨rfl, Below.refl _ _⟩
  by_cases c2 : 65536 < av.length
  · have l1 : ¬ (65536 : Int) < (fx.length : Int) := by omega
    have l2 : (65536 : Int) < (av.length : Int) := by omega
    clear hL hVf hVa hg hfl hx hx0 hx1 hf0 hf hmf hma hml c1 c2
    go_enter Tryf.func4, Tryf.ntmps4
    go_wp2
    go_ret
    exact ⟨rfl, Below.refl _ _⟩
  by_cases c3 : 4096 < L.length
  · have l1 : ¬ (65536 : Int) < (fx.length : Int) := by omega
    have l2 : ¬ (65536 : Int) < (av.length : Int) := by omega
    have l3 : (4096 : Int) < (L.length : Int) := by omega
    clear hL hVf hVa hg hfl hx hx0 hx1 hf0 hf hmf hma hml c1 c2 c3
    go_enter Tryf.func4, Tryf.ntmps4
    go_wp2
    go_ret
    exact ⟨rfl, Below.refl _ _⟩
  have l1 : ¬ (65536 : Int) < (fx.length : Int) := by omega
  have l2 : ¬ (65536 : Int) < (av.length : Int) := by omega
  have l3 : ¬ (4096 : Int) < (L.length : Int) := by omega
  have HA : Hid ((∀ i, i < L.length → el L i ≠ [] ∧ (fx.length + av.length) + (el L i).length ≤ 4069) → Asked w fl fy cn fa fx aa av na L) := fun h =>
    ⟨hc, hf0, hf, hfl, hx, hx0, hx1, hVf, hnf, hVa, hna, hL, hnl, hg, h5, by omega, by omega, by omega, fun i hi => (h i hi).1, fun i hi => (h i hi).2⟩
  have HL : Hid (LView w na L) := hL
  obtain ⟨R1, hR1⟩ : ∃ R1 : Int, R1 = 4069 - (fx.length : Int) := ⟨_, rfl⟩
  obtain ⟨R, hR⟩ : ∃ R : Int, R = R1 - (av.length : Int) := ⟨_, rfl⟩
  have r1 : IntKind.i64.wrap (4069 - (fx.length : Int)) = R1 := by rw [IntKind.wrap_i64]; omega
  have r2 : IntKind.i64.wrap (R1 - (av.length : Int)) = R := by rw [IntKind.wrap_i64]; omega
  have HR : Hid (R = 4069 - (fx.length : Int) - (av.length : Int)) := by show R = _; omega
  have HC : Hid (L.length ≤ 4096) := by show _ ≤ _; omega
  clear hL hVf hVa hg hfl hx hx0 hx1 hf0 hf hmf hma hml c1 c2 c3 hR1 hR hnf hna hnl
  go_enter Tryf.func4, Tryf.ntmps4
  go_wp2
  go_loop [10] (fun i => ∃ k : Nat, k ≤ L.length ∧ i = .int .i64 k ∧ Hid (∀ j, j < k → el L j ≠ [] ∧ (fx.length + av.length) + (el L j).length ≤ 4069)) (fun i => L.length - (intOf i).toNat)
  case atStart => exact ⟨0, Nat.zero_le _, rfl, fun j hj => absurd hj (Nat.not_lt_zero _)⟩
  case round =>
    obtain ⟨k, hk, rfl, HI⟩ := hrel
    by_cases hlt : k < L.length
    · obtain ⟨b, off, ba, cb, hla, hcl, -, -⟩ := HL.out.at hlt
      subst hla
      have i1 : (0 : Int) ≤ (k : Int) := by omega
      have i2 : (k : Int) < (L.length : Int) := by omega
      have hCk := HC.out
      obtain ⟨n, hn⟩ : ∃ n, n = (el L k).length := ⟨_, rfl⟩
      rw [← hn] at hcl
      by_cases hn0 : n = 0
      · subst hn0
        clear hn HI HA
        go_wp2
        go_ret
        exact ⟨rfl, Below.refl _ _⟩
      · have hRR := HR.out
        by_cases hft : (fx.length + av.length) + n ≤ 4069
        · have iR : ¬ R < (n : Int) := by omega
          have HI' : Hid (∀ j, j < k + 1 → el L j ≠ [] ∧ (fx.length + av.length) + (el L j).length ≤ 4069) := by
            intro j hj
            by_cases hjk : j < k
            · exact HI.out j hjk
            · obtain rfl : j = k := by omega
              exact ⟨fun h => by rw [h] at hn; exact hn0 hn, by omega⟩
          clear hn hft hRR HI HA
          go_wp2
          go_round
          case rel => exact ⟨k + 1, by omega, by go_num, HI'⟩
          case measure => simp [intOf]; omega
        · have iR : R < (n : Int) := by omega
          clear hn hft hRR HI HA
          go_wp2
          go_ret
          exact ⟨rfl, Below.refl _ _⟩
    · obtain rfl : k = L.length := by omega
      have HB : Hid (Asked w fl fy cn fa fx aa av na L) := HA.out HI.out
      go_wp2_with (first
        | (go_at_call 12; go_must (refine (greedy_any HB.out cf ca nc).mono ?_); rintro e w1 ⟨rfl, hb⟩)
        | fail)
      go_ret
      exact ⟨rfl, hb⟩

end Go.Proofs.Qxb6003713aFmt
