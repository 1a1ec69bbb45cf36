import Derived.Test.Qxb6003778aFmtAnF
namespace Go.Proofs.Qxb6003778aFmt
open Go.RowKit
set_option linter.unusedVariables false
set_option linter.unusedSimpArgs false

theorem v4_any (hi lo : Nat) (z : Option Addr) (i : Nat) (w : World) (hi4 : i < 4) : Calls Tryf.prog 36 #[AV hi lo z, .int .u8 i] w fun e w' => (∃ x : Nat, e = .returned (.int .u8 x) ∧ x < 256) ∧ Below w.heap.size w w' := by
  unfold AV
  have h : i = 0 ∨ i = 1 ∨ i = 2 ∨ i = 3 := by omega
  rcases h with rfl | rfl | rfl | rfl
  all_goals (
    go_enter Tryf.func36, Tryf.ntmps36
    go_wp2
    go_ret
    refine ⟨?_, (Below.refl _ _).alloc (Nat.le_refl _) _⟩)
  · exact ⟨lo / 16777216 % 256, by simp, by omega⟩
  · exact ⟨lo / 65536 % 256, by simp, by omega⟩
  · exact ⟨lo / 256 % 256, by simp, by omega⟩
  · exact ⟨lo % 256, by simp, by omega⟩

set_option maxHeartbeats 2000000 in
theorem dec_any (x B : Nat) (v : Value) (l : List UInt8) (w : World) (hx : x < 256) (hO : OB 5 B w v l) (hB : B ≤ w.heap.size) (hlen : l.length ≤ 1000000) :
    Calls Tryf.prog 35 #[v, .int .u8 x] w fun e w' => ∃ v' m, e = .returned v' ∧ OB 5 B w' v' (l ++ m) ∧ m.length ≤ 4 ∧ Ext w w' v v' := by
  obtain ⟨i0, hi, hz0, hz1, hz2⟩ := info_parts Tryf.info5
  by_cases h100 : 100 ≤ x
  · have q1 : (100 : Int) ≤ (x : Int) := by omega
    have q2 : (10 : Int) ≤ (x : Int) := by omega
    go_enter Tryf.func35, Tryf.ntmps35
    go_wp2_with (first
      | (at_builtin; have _tok := hO2; go_must (refine wpList_append_any _ rfl (.tmp 22) (.tmp 26) 24 24 rfl B 5 i0 (.int .u8 0) 1 1 Tryf.underlying24 hi hz0 hz1 hz2 rfl _ (l ++ m2).length (bc (l ++ m2)) rfl (hO2.alloc _) _ 1 (bc [_]) rfl (Src.lit w2 Tryf.underlying24 [_] _ 1 1 5 rfl rfl) (by unfold maxLen; simp; omega) (by simp; omega) (by simp; exact Nat.le_succ_of_le (Nat.le_trans hB hE2.size)) ?_); intro v3 w3 ho hx _ _; obtain ⟨m3, hO3, hm3⟩ : ∃ m : List UInt8, OB 5 B w3 v3 (l ++ m) ∧ m.length ≤ 3 := ⟨_, by rw [← List.append_assoc]; exact OB.app ho rfl, by simp; omega⟩; have hE3 := (hE2.trans hx.of_alloc); clear ho hx)
      | (at_builtin; have _tok := hO1; go_must (refine wpList_append_any _ rfl (.tmp 15) (.tmp 20) 24 24 rfl B 5 i0 (.int .u8 0) 1 1 Tryf.underlying24 hi hz0 hz1 hz2 rfl _ (l ++ m1).length (bc (l ++ m1)) rfl (hO1.alloc _) _ 1 (bc [_]) rfl (Src.lit w1 Tryf.underlying24 [_] _ 1 1 5 rfl rfl) (by unfold maxLen; simp; omega) (by simp; omega) (by simp; exact Nat.le_succ_of_le (Nat.le_trans hB hE1.size)) ?_); intro v2 w2 ho hx _ _; obtain ⟨m2, hO2, hm2⟩ : ∃ m : List UInt8, OB 5 B w2 v2 (l ++ m) ∧ m.length ≤ 2 := ⟨_, by rw [← List.append_assoc]; exact OB.app ho rfl, by simp; omega⟩; have hE2 := (hE1.trans hx.of_alloc); clear ho hx)
      | (at_builtin; go_must (refine wpList_append_any _ rfl (.tmp 7) (.tmp 11) 24 24 rfl B 5 i0 (.int .u8 0) 1 1 Tryf.underlying24 hi hz0 hz1 hz2 rfl _ l.length (bc l) rfl (hO.alloc _) _ 1 (bc [_]) rfl (Src.lit w Tryf.underlying24 [_] _ 1 1 5 rfl rfl) (by unfold maxLen; simp; omega) (by simp; omega) (by simp; exact Nat.le_succ_of_le hB) ?_); intro v1 w1 ho hx _ _; obtain ⟨m1, hO1, hm1⟩ : ∃ m : List UInt8, OB 5 B w1 v1 (l ++ m) ∧ m.length ≤ 1 := ⟨_, OB.app ho rfl, by simp⟩; have hE1 := hx.of_alloc; clear ho hx)
      | fail)
    go_ret
    first | exact ⟨_, _, rfl, hO3, by omega, hE3⟩ | exact ⟨_, rfl, _, hO3, by omega, hE3⟩
  by_cases h10 : 10 ≤ x
  · have q1 : ¬ (100 : Int) ≤ (x : Int) := by omega
    have q2 : (10 : Int) ≤ (x : Int) := by omega
    go_enter Tryf.func35, Tryf.ntmps35
    go_wp2_with (first
      | (at_builtin; have _tok := hO1; go_must (refine wpList_append_any _ rfl (.tmp 22) (.tmp 26) 24 24 rfl B 5 i0 (.int .u8 0) 1 1 Tryf.underlying24 hi hz0 hz1 hz2 rfl _ (l ++ m1).length (bc (l ++ m1)) rfl (hO1.alloc _) _ 1 (bc [_]) rfl (Src.lit w1 Tryf.underlying24 [_] _ 1 1 5 rfl rfl) (by unfold maxLen; simp; omega) (by simp; omega) (by simp; exact Nat.le_succ_of_le (Nat.le_trans hB hE1.size)) ?_); intro v2 w2 ho hx _ _; obtain ⟨m2, hO2, hm2⟩ : ∃ m : List UInt8, OB 5 B w2 v2 (l ++ m) ∧ m.length ≤ 2 := ⟨_, by rw [← List.append_assoc]; exact OB.app ho rfl, by simp; omega⟩; have hE2 := (hE1.trans hx.of_alloc); clear ho hx)
      | (at_builtin; go_must (refine wpList_append_any _ rfl (.tmp 15) (.tmp 20) 24 24 rfl B 5 i0 (.int .u8 0) 1 1 Tryf.underlying24 hi hz0 hz1 hz2 rfl _ l.length (bc l) rfl (hO.alloc _) _ 1 (bc [_]) rfl (Src.lit w Tryf.underlying24 [_] _ 1 1 5 rfl rfl) (by unfold maxLen; simp; omega) (by simp; omega) (by simp; exact Nat.le_succ_of_le hB) ?_); intro v1 w1 ho hx _ _; obtain ⟨m1, hO1, hm1⟩ : ∃ m : List UInt8, OB 5 B w1 v1 (l ++ m) ∧ m.length ≤ 1 := ⟨_, OB.app ho rfl, by simp⟩; have hE1 := hx.of_alloc; clear ho hx)
      | fail)
    go_ret
    first | exact ⟨_, _, rfl, hO2, by omega, hE2⟩ | exact ⟨_, rfl, _, hO2, by omega, hE2⟩
  · have q1 : ¬ (100 : Int) ≤ (x : Int) := by omega
    have q2 : ¬ (10 : Int) ≤ (x : Int) := by omega
    go_enter Tryf.func35, Tryf.ntmps35
    go_wp2_with (first
      | (at_builtin; go_must (refine wpList_append_any _ rfl (.tmp 22) (.tmp 26) 24 24 rfl B 5 i0 (.int .u8 0) 1 1 Tryf.underlying24 hi hz0 hz1 hz2 rfl _ l.length (bc l) rfl (hO.alloc _) _ 1 (bc [_]) rfl (Src.lit w Tryf.underlying24 [_] _ 1 1 5 rfl rfl) (by unfold maxLen; simp; omega) (by simp; omega) (by simp; exact Nat.le_succ_of_le hB) ?_); intro v1 w1 ho hx _ _; obtain ⟨m1, hO1, hm1⟩ : ∃ m : List UInt8, OB 5 B w1 v1 (l ++ m) ∧ m.length ≤ 1 := ⟨_, OB.app ho rfl, by simp⟩; have hE1 := hx.of_alloc; clear ho hx)
      | fail)
    go_ret
    first | exact ⟨_, _, rfl, hO1, by omega, hE1⟩ | exact ⟨_, rfl, _, hO1, by omega, hE1⟩

end Go.Proofs.Qxb6003778aFmt
