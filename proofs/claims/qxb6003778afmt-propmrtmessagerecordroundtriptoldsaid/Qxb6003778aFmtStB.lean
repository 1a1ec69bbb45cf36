import Derived.Test.Qxb6003778aFmtStA
namespace Go.Proofs.Qxb6003778aFmt
open Go.RowKit
set_option linter.unusedVariables false
set_option linter.unusedSimpArgs false

theorem and15 (x : Nat) (hx : x < 65536) : ∃ y : Nat, bits .and .u16 (x : Int) 15 = (y : Int) ∧ y < 16 := by
  refine ⟨x &&& 15, ?_, ?_⟩
  · have := (bits_nat .u16 16 (by decide) (fun n h0 h1 => wraps_u16 n h0 h1) x 15 (by omega) (by omega)).1
    simpa using this
  · exact Nat.lt_of_le_of_lt Nat.and_le_right (by omega)

set_option maxHeartbeats 2000000 in
theorem hex_any (x B : Nat) (v : Value) (l : List UInt8) (w : World) (hx : x < 65536) (hO : OB 5 B w v l) (hB : B ≤ w.heap.size) (hlen : l.length ≤ 1000000) :
    Calls Tryf.prog 40 #[v, .int .u16 x] w fun e w' => ∃ v' m, e = .returned v' ∧ OB 5 B w' v' (l ++ m) ∧ m.length ≤ 4 ∧ Ext w w' v v' := by
  obtain ⟨i0, hi, hz0, hz1, hz2⟩ := info_parts Tryf.info5
  obtain ⟨y1, e1, g1⟩ := and15 (x / 256) (by omega)
  obtain ⟨y2, e2, g2⟩ := and15 (x / 16) (by omega)
  obtain ⟨y3, e3, g3⟩ := and15 x hx
  have j1 : ((x / 256 : Nat) : Int) = (x : Int) / 256 := by omega
  have j2 : ((x / 16 : Nat) : Int) = (x : Int) / 16 := by omega
  rw [j1] at e1
  rw [j2] at e2
  clear j1 j2
  have p1 : (y1 : Int) < 16 := by omega
  have p2 : (y2 : Int) < 16 := by omega
  have p3 : (y3 : Int) < 16 := by omega
  have p0 : (x : Int) / 4096 < 16 := by omega
  by_cases h1 : 4096 ≤ x
  · have q1 : (4096 : Int) ≤ (x : Int) := by omega
    have q2 : (256 : Int) ≤ (x : Int) := by omega
    have q3 : (16 : Int) ≤ (x : Int) := by omega
    go_enter Tryf.func40, Tryf.ntmps40
    go_wp2_with (first
      | (at_builtin; have _tok := hO3; go_must (refine wpList_append_any _ rfl (.tmp 31) (.tmp 35) 24 24 rfl B 5 i0 (.int .u8 0) 1 1 Tryf.underlying24 hi hz0 hz1 hz2 rfl _ (l ++ m3).length (bc (l ++ m3)) rfl (hO3.alloc _) _ 1 (bc [_]) rfl (Src.lit w3 Tryf.underlying24 [_] _ 1 1 5 rfl rfl) (by unfold maxLen; simp; omega) (by simp; omega) (by simp; exact Nat.le_succ_of_le (Nat.le_trans hB hE3.size)) ?_); intro v4 w4 ho hx _ _; obtain ⟨m4, hO4, hm4⟩ : ∃ m : List UInt8, OB 5 B w4 v4 (l ++ m) ∧ m.length ≤ 4 := ⟨_, by rw [← List.append_assoc]; exact OB.app ho rfl, by simp; omega⟩; have hE4 := (hE3.trans hx.of_alloc); clear ho hx)
      | (at_builtin; have _tok := hO2; go_must (refine wpList_append_any _ rfl (.tmp 24) (.tmp 29) 24 24 rfl B 5 i0 (.int .u8 0) 1 1 Tryf.underlying24 hi hz0 hz1 hz2 rfl _ (l ++ m2).length (bc (l ++ m2)) rfl (hO2.alloc _) _ 1 (bc [_]) rfl (Src.lit w2 Tryf.underlying24 [_] _ 1 1 5 rfl rfl) (by unfold maxLen; simp; omega) (by simp; omega) (by simp; exact Nat.le_succ_of_le (Nat.le_trans hB hE2.size)) ?_); intro v3 w3 ho hx _ _; obtain ⟨m3, hO3, hm3⟩ : ∃ m : List UInt8, OB 5 B w3 v3 (l ++ m) ∧ m.length ≤ 3 := ⟨_, by rw [← List.append_assoc]; exact OB.app ho rfl, by simp; omega⟩; have hE3 := (hE2.trans hx.of_alloc); clear ho hx)
      | (at_builtin; have _tok := hO1; go_must (refine wpList_append_any _ rfl (.tmp 15) (.tmp 20) 24 24 rfl B 5 i0 (.int .u8 0) 1 1 Tryf.underlying24 hi hz0 hz1 hz2 rfl _ (l ++ m1).length (bc (l ++ m1)) rfl (hO1.alloc _) _ 1 (bc [_]) rfl (Src.lit w1 Tryf.underlying24 [_] _ 1 1 5 rfl rfl) (by unfold maxLen; simp; omega) (by simp; omega) (by simp; exact Nat.le_succ_of_le (Nat.le_trans hB hE1.size)) ?_); intro v2 w2 ho hx _ _; obtain ⟨m2, hO2, hm2⟩ : ∃ m : List UInt8, OB 5 B w2 v2 (l ++ m) ∧ m.length ≤ 2 := ⟨_, by rw [← List.append_assoc]; exact OB.app ho rfl, by simp; omega⟩; have hE2 := (hE1.trans hx.of_alloc); clear ho hx)
      | (at_builtin; go_must (refine wpList_append_any _ rfl (.tmp 7) (.tmp 11) 24 24 rfl B 5 i0 (.int .u8 0) 1 1 Tryf.underlying24 hi hz0 hz1 hz2 rfl _ l.length (bc l) rfl (hO.alloc _) _ 1 (bc [_]) rfl (Src.lit w Tryf.underlying24 [_] _ 1 1 5 rfl rfl) (by unfold maxLen; simp; omega) (by simp; omega) (by simp; exact Nat.le_succ_of_le hB) ?_); intro v1 w1 ho hx _ _; obtain ⟨m1, hO1, hm1⟩ : ∃ m : List UInt8, OB 5 B w1 v1 (l ++ m) ∧ m.length ≤ 1 := ⟨_, OB.app ho rfl, by simp⟩; have hE1 := hx.of_alloc; clear ho hx)
      | fail)
    go_ret
    first | exact ⟨_, _, rfl, hO4, by omega, hE4⟩ | exact ⟨_, rfl, _, hO4, by omega, hE4⟩
  by_cases h2 : 256 ≤ x
  · have q1 : ¬ (4096 : Int) ≤ (x : Int) := by omega
    have q2 : (256 : Int) ≤ (x : Int) := by omega
    have q3 : (16 : Int) ≤ (x : Int) := by omega
    go_enter Tryf.func40, Tryf.ntmps40
    go_wp2_with (first
      | (at_builtin; have _tok := hO2; go_must (refine wpList_append_any _ rfl (.tmp 31) (.tmp 35) 24 24 rfl B 5 i0 (.int .u8 0) 1 1 Tryf.underlying24 hi hz0 hz1 hz2 rfl _ (l ++ m2).length (bc (l ++ m2)) rfl (hO2.alloc _) _ 1 (bc [_]) rfl (Src.lit w2 Tryf.underlying24 [_] _ 1 1 5 rfl rfl) (by unfold maxLen; simp; omega) (by simp; omega) (by simp; exact Nat.le_succ_of_le (Nat.le_trans hB hE2.size)) ?_); intro v3 w3 ho hx _ _; obtain ⟨m3, hO3, hm3⟩ : ∃ m : List UInt8, OB 5 B w3 v3 (l ++ m) ∧ m.length ≤ 3 := ⟨_, by rw [← List.append_assoc]; exact OB.app ho rfl, by simp; omega⟩; have hE3 := (hE2.trans hx.of_alloc); clear ho hx)
      | (at_builtin; have _tok := hO1; go_must (refine wpList_append_any _ rfl (.tmp 24) (.tmp 29) 24 24 rfl B 5 i0 (.int .u8 0) 1 1 Tryf.underlying24 hi hz0 hz1 hz2 rfl _ (l ++ m1).length (bc (l ++ m1)) rfl (hO1.alloc _) _ 1 (bc [_]) rfl (Src.lit w1 Tryf.underlying24 [_] _ 1 1 5 rfl rfl) (by unfold maxLen; simp; omega) (by simp; omega) (by simp; exact Nat.le_succ_of_le (Nat.le_trans hB hE1.size)) ?_); intro v2 w2 ho hx _ _; obtain ⟨m2, hO2, hm2⟩ : ∃ m : List UInt8, OB 5 B w2 v2 (l ++ m) ∧ m.length ≤ 2 := ⟨_, by rw [← List.append_assoc]; exact OB.app ho rfl, by simp; omega⟩; have hE2 := (hE1.trans hx.of_alloc); clear ho hx)
      | (at_builtin; go_must (refine wpList_append_any _ rfl (.tmp 15) (.tmp 20) 24 24 rfl B 5 i0 (.int .u8 0) 1 1 Tryf.underlying24 hi hz0 hz1 hz2 rfl _ l.length (bc l) rfl (hO.alloc _) _ 1 (bc [_]) rfl (Src.lit w Tryf.underlying24 [_] _ 1 1 5 rfl rfl) (by unfold maxLen; simp; omega) (by simp; omega) (by simp; exact Nat.le_succ_of_le hB) ?_); intro v1 w1 ho hx _ _; obtain ⟨m1, hO1, hm1⟩ : ∃ m : List UInt8, OB 5 B w1 v1 (l ++ m) ∧ m.length ≤ 1 := ⟨_, OB.app ho rfl, by simp⟩; have hE1 := hx.of_alloc; clear ho hx)
      | fail)
    go_ret
    first | exact ⟨_, _, rfl, hO3, by omega, hE3⟩ | exact ⟨_, rfl, _, hO3, by omega, hE3⟩
  by_cases h3 : 16 ≤ x
  · have q1 : ¬ (4096 : Int) ≤ (x : Int) := by omega
    have q2 : ¬ (256 : Int) ≤ (x : Int) := by omega
    have q3 : (16 : Int) ≤ (x : Int) := by omega
    go_enter Tryf.func40, Tryf.ntmps40
    go_wp2_with (first
      | (at_builtin; have _tok := hO1; go_must (refine wpList_append_any _ rfl (.tmp 31) (.tmp 35) 24 24 rfl B 5 i0 (.int .u8 0) 1 1 Tryf.underlying24 hi hz0 hz1 hz2 rfl _ (l ++ m1).length (bc (l ++ m1)) rfl (hO1.alloc _) _ 1 (bc [_]) rfl (Src.lit w1 Tryf.underlying24 [_] _ 1 1 5 rfl rfl) (by unfold maxLen; simp; omega) (by simp; omega) (by simp; exact Nat.le_succ_of_le (Nat.le_trans hB hE1.size)) ?_); intro v2 w2 ho hx _ _; obtain ⟨m2, hO2, hm2⟩ : ∃ m : List UInt8, OB 5 B w2 v2 (l ++ m) ∧ m.length ≤ 2 := ⟨_, by rw [← List.append_assoc]; exact OB.app ho rfl, by simp; omega⟩; have hE2 := (hE1.trans hx.of_alloc); clear ho hx)
      | (at_builtin; go_must (refine wpList_append_any _ rfl (.tmp 24) (.tmp 29) 24 24 rfl B 5 i0 (.int .u8 0) 1 1 Tryf.underlying24 hi hz0 hz1 hz2 rfl _ l.length (bc l) rfl (hO.alloc _) _ 1 (bc [_]) rfl (Src.lit w Tryf.underlying24 [_] _ 1 1 5 rfl rfl) (by unfold maxLen; simp; omega) (by simp; omega) (by simp; exact Nat.le_succ_of_le hB) ?_); intro v1 w1 ho hx _ _; obtain ⟨m1, hO1, hm1⟩ : ∃ m : List UInt8, OB 5 B w1 v1 (l ++ m) ∧ m.length ≤ 1 := ⟨_, OB.app ho rfl, by simp⟩; have hE1 := hx.of_alloc; clear ho hx)
      | fail)
    go_ret
    first | exact ⟨_, _, rfl, hO2, by omega, hE2⟩ | exact ⟨_, rfl, _, hO2, by omega, hE2⟩
  · have q1 : ¬ (4096 : Int) ≤ (x : Int) := by omega
    have q2 : ¬ (256 : Int) ≤ (x : Int) := by omega
    have q3 : ¬ (16 : Int) ≤ (x : Int) := by omega
    go_enter Tryf.func40, Tryf.ntmps40
    go_wp2_with (first
      | (at_builtin; go_must (refine wpList_append_any _ rfl (.tmp 31) (.tmp 35) 24 24 rfl B 5 i0 (.int .u8 0) 1 1 Tryf.underlying24 hi hz0 hz1 hz2 rfl _ l.length (bc l) rfl (hO.alloc _) _ 1 (bc [_]) rfl (Src.lit w Tryf.underlying24 [_] _ 1 1 5 rfl rfl) (by unfold maxLen; simp; omega) (by simp; omega) (by simp; exact Nat.le_succ_of_le hB) ?_); intro v1 w1 ho hx _ _; obtain ⟨m1, hO1, hm1⟩ : ∃ m : List UInt8, OB 5 B w1 v1 (l ++ m) ∧ m.length ≤ 1 := ⟨_, OB.app ho rfl, by simp⟩; have hE1 := hx.of_alloc; clear ho hx)
      | fail)
    go_ret
    first | exact ⟨_, _, rfl, hO1, by omega, hE1⟩ | exact ⟨_, rfl, _, hO1, by omega, hE1⟩

end Go.Proofs.Qxb6003778aFmt
