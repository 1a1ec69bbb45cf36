import Derived.Test.Qxb6003778aFmtStE
namespace Go.Proofs.Qxb6003778aFmt
open Go.RowKit
set_option linter.unusedVariables false
set_option linter.unusedSimpArgs false

theorem Lp.mono {w : World} {bx : Array Value} {B : Nat} {v0 : Value} {l : List UInt8} {wr : World} {v : Value} {K K' : Nat} (h : Lp w bx B v0 l wr v K) (hK : K ≤ K') : Lp w bx B v0 l wr v K' := by
  obtain ⟨m, ho, hm⟩ := h.row
  exact ⟨h.ext, m, ho, Nat.le_trans hm hK⟩

set_option maxRecDepth 100000 in
set_option maxHeartbeats 3000000 in
theorem to6_any (hi lo : Nat) (p4 p6 : Addr) (B : Nat) (v : Value) (l : List UInt8) (w w0 : World) (hz : Zs w0 p4 p6) (hb0 : Below w0.heap.size w0 w) (hB0 : w0.heap.size ≤ B) (hO : OB 5 B w v l) (hB : B ≤ w.heap.size) (hlen : l.length ≤ 900) :
    Calls Tryf.prog 34 #[AV hi lo (some p6), v] w fun e w' => ∃ v' m, e = .returned v' ∧ OB 5 B w' v' (l ++ m) ∧ m.length ≤ 64 ∧ Ext w w' v v' := by
  obtain ⟨i0, hi', hz0, hz1, hz2⟩ := info_parts Tryf.info5
  obtain ⟨bx, hbx⟩ : ∃ bx : Array Value, bx = #[.int .u64 hi, .int .u64 lo, .pointer (some p6)] := ⟨_, rfl⟩
  have HV : Hid (v.ownBlock ≠ some w.heap.size) := fun q => by have := (hO.lt _ q).2; omega
  have HV0 : Hid (∀ k, v.ownBlock = some k → w0.heap.size ≤ k) := fun k q => Nat.le_trans hB0 (hO.lt _ q).1
  have HZ : Hid (∀ W, Below w0.heap.size w0 W → Zs W p4 p6) := fun W hb => hz.later hb
  have HL0 : Hid (Lp w bx B v l (w.alloc (.cells #[.int .u64 hi, .int .u64 lo, .pointer (some p6)] 32)) v 0) := by rw [hbx]; exact Lp.start _ hO
  have HB : Hid (∀ W (u : Value) K, Lp w bx B v l W u K → B ≤ W.heap.size) := fun W u K h => by have := h.ext.size; simp at this; omega
  have HX : Hid (∀ W (u : Value) K, Lp w bx B v l W u K → W.cell? ⟨w.heap.size, 0, none⟩ = some (.int .u64 hi) ∧ W.cell? ⟨w.heap.size, 1, none⟩ = some (.int .u64 lo) ∧ W.cell? ⟨w.heap.size, 2, none⟩ = some (.pointer (some p6))) := fun W u K h => by
    have := h.box HV.out
    rw [hbx] at this
    exact ⟨this.cell 0, this.cell 1, this.cell 2⟩
  have Hb0 : Hid (Below w0.heap.size w0 w) := hb0
  have HL : Hid (l.length ≤ 900) := hlen
  have z3 := eqz_same
  clear hz hO hB hB0 hb0 hlen
  unfold AV
  go_enter Tryf.func34, Tryf.ntmps34
  go_wp2_with fail
  go_loopw [5, 6, 7] (fun s e i wr => ∃ S E k : Nat, s = .int .u8 S ∧ e = .int .u8 E ∧ i = .int .u8 k ∧ k ≤ 8 ∧ Hid ((S = 255 ∧ E = 255) ∨ (S < E ∧ E ≤ 8)) ∧ Hid (Lp w bx B v l wr v 0)) (fun _ _ i _ => 8 - (intOf i).toNat)
  case atStart => exact ⟨255, 255, 0, rfl, rfl, rfl, by omega, .inl ⟨rfl, rfl⟩, HL0⟩
  case round =>
    obtain ⟨S, E, k, rfl, rfl, rfl, hk, HS, HP⟩ := hrel
    by_cases hk8 : k < 8
    · have q1 : (k : Int) < 8 := by omega
      go_wp2_with fail
      go_loopw [8] (fun j wq => ∃ J : Nat, j = .int .u8 J ∧ k ≤ J ∧ J ≤ 8 ∧ Hid (Lp w bx B v l wq v 0)) (fun j _ => 8 - (intOf j).toNat)
      case atStart => exact ⟨k, rfl, Nat.le_refl _, by omega, HP⟩
      case round =>
        obtain ⟨J, rfl, hkJ, hJ, HQ⟩ := hrel
        have hS := HS.out
        obtain ⟨D1, hD1⟩ : ∃ D1, D1 = J - k := ⟨_, rfl⟩
        obtain ⟨D2, hD2⟩ : ∃ D2, D2 = E - S := ⟨_, rfl⟩
        have x1 : IntKind.u8.wrap ((J : Int) - (k : Int)) = (D1 : Int) := by rw [IntKind.wrap_u8]; omega
        have x2 : IntKind.u8.wrap ((E : Int) - (S : Int)) = (D2 : Int) := by rw [IntKind.wrap_u8]; omega
        have x3 : IntKind.u8.wrap ((k : Int) + 1) = ((k + 1 : Nat) : Int) := by rw [IntKind.wrap_u8]; omega
        have x4 : IntKind.u8.wrap ((J : Int) + 1) = ((J + 1 : Nat) : Int) := by rw [IntKind.wrap_u8]; omega
        have HU : Hid ((2 ≤ D1 ∧ D2 < D1) → (J ≤ 8 ∧ k < J)) := fun h => by omega
        obtain ⟨c0, c1, c2⟩ := HX.out _ _ _ HQ.out
        clear hS hD2
        by_cases u1 : 2 ≤ D1
        · have v1 : (2 : Int) ≤ (D1 : Int) := by omega
          by_cases u2 : D2 < D1
          · have v2 : (D2 : Int) < (D1 : Int) := by omega
            have HN : Hid ((k = 255 ∧ J = 255) ∨ (k < J ∧ J ≤ 8)) := .inr ⟨by omega, hJ⟩
            clear hD1
            by_cases hJ8 : J < 8
            · have j1 : (J : Int) < 8 := by omega
              go_wp2_with (first
                | (go_at_call 39; go_must (refine (v6_any hi lo (some p6) J _ (by omega)).mono ?_); rintro e w1 ⟨⟨x, rfl, hx⟩, hb⟩; have HQ1 : Hid (Lp w bx B v l w1 v 0) := HQ.out.below hb; clear hb)
                | fail)
              all_goals first
                | (go_roundw
                   case rel => exact ⟨J + 1, (by go_num), by omega, by omega, HQ1⟩
                   case measure => simp [intOf]; omega)
                | (go_roundw
                   case rel => exact ⟨k, J, k + 1, rfl, rfl, (by go_num), by omega, HN, HQ1⟩
                   case measure => simp [intOf]; omega)
                | fail
            · have j1 : ¬ (J : Int) < 8 := by omega
              go_wp2_with fail
              go_roundw
              case rel => exact ⟨k, J, k + 1, rfl, rfl, (by go_num), by omega, HN, HQ⟩
              case measure => simp [intOf]; omega
          · have v2 : ¬ (D2 : Int) < (D1 : Int) := by omega
            clear hD1
            by_cases hJ8 : J < 8
            · have j1 : (J : Int) < 8 := by omega
              go_wp2_with (first
                | (go_at_call 39; go_must (refine (v6_any hi lo (some p6) J _ (by omega)).mono ?_); rintro e w1 ⟨⟨x, rfl, hx⟩, hb⟩; have HQ1 : Hid (Lp w bx B v l w1 v 0) := HQ.out.below hb; clear hb)
                | fail)
              all_goals first
                | (go_roundw
                   case rel => exact ⟨J + 1, (by go_num), by omega, by omega, HQ1⟩
                   case measure => simp [intOf]; omega)
                | (go_roundw
                   case rel => exact ⟨S, E, k + 1, rfl, rfl, (by go_num), by omega, HS, HQ1⟩
                   case measure => simp [intOf]; omega)
                | fail
            · have j1 : ¬ (J : Int) < 8 := by omega
              go_wp2_with fail
              go_roundw
              case rel => exact ⟨S, E, k + 1, rfl, rfl, (by go_num), by omega, HS, HQ⟩
              case measure => simp [intOf]; omega
        · have v1 : ¬ (2 : Int) ≤ (D1 : Int) := by omega
          clear hD1
          by_cases hJ8 : J < 8
          · have j1 : (J : Int) < 8 := by omega
            go_wp2_with (first
              | (go_at_call 39; go_must (refine (v6_any hi lo (some p6) J _ (by omega)).mono ?_); rintro e w1 ⟨⟨x, rfl, hx⟩, hb⟩; have HQ1 : Hid (Lp w bx B v l w1 v 0) := HQ.out.below hb; clear hb)
              | fail)
            all_goals first
              | (go_roundw
                 case rel => exact ⟨J + 1, (by go_num), by omega, by omega, HQ1⟩
                 case measure => simp [intOf]; omega)
              | (go_roundw
                 case rel => exact ⟨S, E, k + 1, rfl, rfl, (by go_num), by omega, HS, HQ1⟩
                 case measure => simp [intOf]; omega)
              | fail
          · have j1 : ¬ (J : Int) < 8 := by omega
            go_wp2_with fail
            go_roundw
            case rel => exact ⟨S, E, k + 1, rfl, rfl, (by go_num), by omega, HS, HQ⟩
            case measure => simp [intOf]; omega
    · have kn : ¬ (k : Int) < 8 := by omega
      have hS := HS.out
      clear hk hk8
      go_wp2_with fail
      go_loopw [1, 10] (fun rv i wr => ∃ (u : Value) (q : Nat), rv = u ∧ i = .int .u8 q ∧ q ≤ 9 ∧ Hid (Lp w bx B v l wr u (6 * q))) (fun _ i _ => 10 - (intOf i).toNat)
      case atStart => exact ⟨v, 0, rfl, rfl, by omega, HP⟩
      case round =>
        obtain ⟨u, q, rfl, rfl, hq, HQ⟩ := hrel
        obtain ⟨m0, ho0, hm0⟩ := HQ.out.row
        obtain ⟨c0, c1, c2⟩ := HX.out _ _ _ HQ.out
        by_cases hq8 : q < 8
        · have q1 : (q : Int) < 8 := by omega
          by_cases hqS : q = S
          · have q2 : (q : Int) = (S : Int) := by omega
            have hE8 : S < E ∧ E ≤ 8 := by omega
            have hqE : q < E := by omega
            clear hqS
            by_cases hE : E < 8
            · have q3 : ¬ (8 : Int) ≤ (E : Int) := by omega
              have e1 : IntKind.u8.wrap ((E : Int) + 1) = ((E + 1 : Nat) : Int) := by rw [IntKind.wrap_u8]; omega
              have BX : ∀ W (y : Value) K, Lp w bx B v l W y K → W.cell? ⟨w.heap.size, 0, none⟩ = some (.int .u64 hi) ∧ W.cell? ⟨w.heap.size, 1, none⟩ = some (.int .u64 lo) ∧ W.cell? ⟨w.heap.size, 2, none⟩ = some (.pointer (some p6)) := HX.out
              go_wp2_with (first
            | (go_at_call 40; go_must (refine (hex_any x B _ (l ++ m2) _ hx ho2 (HB.out _ _ _ HT.out) (by have := HL.out; simp; omega)).mono ?_); rintro e w5 ⟨u5, m5, rfl, ho5, hm5, hx5⟩; have HF : Hid (Lp w bx B v l w5 u5 (6 * q + 2 + 4)) := HT.out.grow hx5 ho5 hm2 hm5; clear hx5 ho5)
            | (go_at_call 39; go_must (refine (v6_any hi lo (some p6) E _ (by omega)).mono ?_); rintro e w4 ⟨⟨x, rfl, hx⟩, hb⟩; have HT : Hid (Lp w bx B v l w4 _ (6 * q + 2)) := HA.out.below hb; obtain ⟨m2, ho2, hm2⟩ := HT.out.row; clear hb)
            | (at_builtin; go_must (refine wpList_append_any _ rfl (.tmp 47) (.tmp 48) 24 24 rfl B 5 i0 (.int .u8 0) 1 1 Tryf.underlying24 hi' hz0 hz1 hz2 rfl _ (l ++ m0).length (bc (l ++ m0)) rfl (ho0.alloc _) _ 2 (bc [58, 58]) rfl (Src.lit wr Tryf.underlying24 [58, 58] _ 2 2 5 rfl rfl) (by have := HL.out; unfold maxLen; simp; omega) (by have := HL.out; simp; omega) (by simp; exact Nat.le_succ_of_le (HB.out _ _ _ HQ.out)) ?_); intro u3 w3 ho' hx' _ _; have HA : Hid (Lp w bx B v l w3 u3 (6 * q + 2)) := HQ.out.grow hx'.of_alloc (OB.app ho' rfl) hm0 (by simp); obtain ⟨d0, d1, d2⟩ := HX.out _ _ _ HA.out; clear ho' hx')
            | fail)
              go_roundw
              case rel => exact ⟨_, E + 1, rfl, by go_num, by omega, HF.out.mono (by omega)⟩
              case measure => simp [intOf]; omega
            · have q3 : (8 : Int) ≤ (E : Int) := by omega
              go_wp2_with (first
            | (at_builtin; go_must (refine wpList_append_any _ rfl (.tmp 47) (.tmp 48) 24 24 rfl B 5 i0 (.int .u8 0) 1 1 Tryf.underlying24 hi' hz0 hz1 hz2 rfl _ (l ++ m0).length (bc (l ++ m0)) rfl (ho0.alloc _) _ 2 (bc [58, 58]) rfl (Src.lit wr Tryf.underlying24 [58, 58] _ 2 2 5 rfl rfl) (by have := HL.out; unfold maxLen; simp; omega) (by have := HL.out; simp; omega) (by simp; exact Nat.le_succ_of_le (HB.out _ _ _ HQ.out)) ?_); intro u3 w3 ho' hx' _ _; have HA : Hid (Lp w bx B v l w3 u3 (6 * q + 2)) := HQ.out.grow hx'.of_alloc (OB.app ho' rfl) hm0 (by simp); have d2 : w3.cell? ⟨w.heap.size, 2, none⟩ = some (.pointer (some p6)) := (HX.out _ _ _ HA.out).2.2; have g6 : w3.cell? ⟨2, 0, none⟩ = some (.pointer (some p6)) := (HZ.out _ (HA.out.old Hb0.out HV0.out)).c6; clear ho' hx')
            | fail)
              go_ret
              obtain ⟨m, ho, hm⟩ := HA.out.row
              first | exact ⟨_, m, rfl, ho, by omega, HA.out.ext.of_alloc⟩ | exact ⟨_, rfl, m, ho, by omega, HA.out.ext.of_alloc⟩
          · have q2 : ¬ (q : Int) = (S : Int) := by omega
            by_cases hq0 : q = 0
            · have q3 : ¬ (0 : Int) < (q : Int) := by omega
              have q4 : q < 8 := hq8
              clear hq0 hqS hq8
              have e1 : IntKind.u8.wrap ((q : Int) + 1) = ((q + 1 : Nat) : Int) := by rw [IntKind.wrap_u8]; omega
              go_wp2_with (first
            | (go_at_call 40; go_must (refine (hex_any x B _ (l ++ m2) _ hx ho2 (HB.out _ _ _ HT.out) (by have := HL.out; simp; omega)).mono ?_); rintro e w5 ⟨u5, m5, rfl, ho5, hm5, hx5⟩; have HF : Hid (Lp w bx B v l w5 u5 (6 * q + 4)) := HT.out.grow hx5 ho5 hm2 hm5; clear hx5 ho5)
            | (go_at_call 39; go_must (refine (v6_any hi lo (some p6) q _ (by omega)).mono ?_); rintro e w4 ⟨⟨x, rfl, hx⟩, hb⟩; have HT : Hid (Lp w bx B v l w4 _ (6 * q)) := HQ.out.below hb; obtain ⟨m2, ho2, hm2⟩ := HT.out.row; clear hb)
            | fail)
              go_roundw
              case rel => exact ⟨_, q + 1, rfl, by go_num, by omega, HF.out.mono (by omega)⟩
              case measure => simp [intOf]; omega
            · have q3 : (0 : Int) < (q : Int) := by omega
              clear hq0 hqS
              have e1 : IntKind.u8.wrap ((q : Int) + 1) = ((q + 1 : Nat) : Int) := by rw [IntKind.wrap_u8]; omega
              go_wp2_with (first
            | (go_at_call 40; go_must (refine (hex_any x B _ (l ++ m2) _ hx ho2 (HB.out _ _ _ HT.out) (by have := HL.out; simp; omega)).mono ?_); rintro e w5 ⟨u5, m5, rfl, ho5, hm5, hx5⟩; have HF : Hid (Lp w bx B v l w5 u5 (6 * q + 1 + 4)) := HT.out.grow hx5 ho5 hm2 hm5; clear hx5 ho5)
            | (go_at_call 39; go_must (refine (v6_any hi lo (some p6) q _ (by omega)).mono ?_); rintro e w4 ⟨⟨x, rfl, hx⟩, hb⟩; have HT : Hid (Lp w bx B v l w4 _ (6 * q + 1)) := HA.out.below hb; obtain ⟨m2, ho2, hm2⟩ := HT.out.row; clear hb)
            | (at_builtin; go_must (refine wpList_append_any _ rfl (.tmp 55) (.tmp 56) 24 24 rfl B 5 i0 (.int .u8 0) 1 1 Tryf.underlying24 hi' hz0 hz1 hz2 rfl _ (l ++ m0).length (bc (l ++ m0)) rfl (ho0.alloc _) _ 1 (bc [58]) rfl (Src.lit wr Tryf.underlying24 [58] _ 1 1 5 rfl rfl) (by have := HL.out; unfold maxLen; simp; omega) (by have := HL.out; simp; omega) (by simp; exact Nat.le_succ_of_le (HB.out _ _ _ HQ.out)) ?_); intro u3 w3 ho' hx' _ _; have HA : Hid (Lp w bx B v l w3 u3 (6 * q + 1)) := HQ.out.grow hx'.of_alloc (OB.app ho' rfl) hm0 (by simp); obtain ⟨d0, d1, d2⟩ := HX.out _ _ _ HA.out; clear ho' hx')
            | fail)
              go_roundw
              case rel => exact ⟨_, q + 1, rfl, by go_num, by omega, HF.out.mono (by omega)⟩
              case measure => simp [intOf]; omega
        · have q1 : ¬ (q : Int) < 8 := by omega
          have g6 : wr.cell? ⟨2, 0, none⟩ = some (.pointer (some p6)) := (HZ.out _ (HQ.out.old Hb0.out HV0.out)).c6
          go_wp2_with fail
          go_ret
          obtain ⟨m, ho, hm⟩ := HQ.out.row
          first | exact ⟨_, m, rfl, ho, by omega, HQ.out.ext.of_alloc⟩ | exact ⟨_, rfl, m, ho, by omega, HQ.out.ext.of_alloc⟩

end Go.Proofs.Qxb6003778aFmt
