import Derived.Test.Qxb6003861aFmtAdC
import Derived.Laws.BitsAllLaws
namespace Go.Proofs.Qxb6003861aFmt
open Go.RowKit
set_option linter.unusedVariables false
set_option linter.unusedSimpArgs false

/-- The source of words behind its interface. -/
def RS (w : World) (rb tb : Nat) : Prop := Blk w rb 82 #[.iface 60 (.pointer (some ⟨tb, 0, none⟩))] ∧ rb ≠ tb ∧ TS w tb

set_option maxRecDepth 100000 in
set_option maxHeartbeats 2000000 in
theorem draw_any (rb tb : Nat) (w : World) (h : RS w rb tb) : Calls Tryf.prog 31 #[.pointer (some ⟨rb, 0, none⟩)] w (Word tb w) := by
  obtain ⟨hB, hne, hT⟩ := h
  have c0 : w.cell? ⟨rb, 0, none⟩ = some (.iface 60 (.pointer (some ⟨tb, 0, none⟩))) := hB.cell 0
  have HT := Hid.mk'' hT
  clear hB hT
  have hm : ∀ w, (method 214 60 (.pointer (some ⟨tb, 0, none⟩)) "Uint64").run Tryf.prog w = .ok (54, .pointer (some ⟨tb, 0, none⟩)) w := fun _ => by kernel_rfl
  go_enter Tryf.func31, Tryf.ntmps31
  go_wp2_with (refine (word_any tb w HT.out).mono ?_; rintro e w1 ⟨x, rfl, hD, hT1, hK⟩; have HD := Hid.mk'' hD; have HT1 := Hid.mk'' hT1; have HK := Hid.mk'' hK; clear hD hT1 hK)
  go_ret
  exact ⟨x, rfl, HD.out, HT1.out, HK.out⟩

theorem bits_low (x : Int) (hx : 0 ≤ x) (hx2 : x < 18446744073709551616) : bits .and .u64 x 4294967295 = x % 4294967296 := by
  rw [u64_and x 4294967295 hx hx2 (by omega) (by omega)]
  have : (4294967295 : Int).toNat = 2 ^ 32 - 1 := rfl
  rw [this, Nat.and_two_pow_sub_one_eq_mod]
  omega
theorem mul_any (x n : Int) (w : World) (hx : 0 ≤ x) (hx2 : x < 18446744073709551616) (hn : 1 ≤ n) (hn2 : n ≤ 256) : Calls Tryf.prog 32 #[.int .u64 x, .int .u64 n] w fun e w' => e = .returned (.tuple #[.int .u64 (x * n / 18446744073709551616), .int .u64 (x * n % 18446744073709551616)]) ∧ w' = w := by
  obtain ⟨xl, hxl⟩ : ∃ xl, xl = x % 4294967296 := ⟨_, rfl⟩
  obtain ⟨xh, hxh⟩ : ∃ xh, xh = x / 4294967296 := ⟨_, rfl⟩
  have e1 : bits .and .u64 x 4294967295 = xl := by rw [bits_low x hx hx2, hxl]
  have e2 : x / 4294967296 = xh := hxh.symm
  have e3 : bits .and .u64 n 4294967295 = n := by rw [bits_low n (by omega) (by omega)]; omega
  have e4 : n / 4294967296 = 0 := by omega
  obtain ⟨A, hA⟩ : ∃ A, A = xl * n := ⟨_, rfl⟩
  obtain ⟨B, hB⟩ : ∃ B, B = xh * n := ⟨_, rfl⟩
  have hA0 : 0 ≤ A := by rw [hA]; exact Int.mul_nonneg (by omega) (by omega)
  have hB0 : 0 ≤ B := by rw [hB]; exact Int.mul_nonneg (by omega) (by omega)
  have hA1 : A ≤ 4294967295 * n := by rw [hA]; exact Int.mul_le_mul_of_nonneg_right (by omega) (by omega)
  have hB1 : B ≤ 4294967295 * n := by rw [hB]; exact Int.mul_le_mul_of_nonneg_right (by omega) (by omega)
  have hX : x * n = B * 4294967296 + A := by
    rw [hA, hB, show x = xh * 4294967296 + xl by omega, Int.add_mul]
    congr 1
    rw [Int.mul_assoc, Int.mul_comm 4294967296 n, ← Int.mul_assoc]
  have f1 : IntKind.u64.wrap (xl * n) = A := by rw [← hA, IntKind.wrap_u64]; omega
  have f2 : IntKind.u64.wrap (xh * n) = B := by rw [← hB, IntKind.wrap_u64]; omega
  have f3 : IntKind.u64.wrap (B + A / 4294967296) = B + A / 4294967296 := by rw [IntKind.wrap_u64]; omega
  have f4 : IntKind.u64.wrap (xh * 0) = 0 := by rw [Int.mul_zero]; rfl
  have f5 : IntKind.u64.wrap (xl * 0) = 0 := by rw [Int.mul_zero]; rfl
  have f6 : bits .and .u64 (B + A / 4294967296) 4294967295 = (B + A / 4294967296) % 4294967296 := bits_low _ (by omega) (by omega)
  have f7 : IntKind.u64.wrap (x * n) = x * n % 18446744073709551616 := by rw [IntKind.wrap_u64]
  have g1 : IntKind.u64.wrap ((B + A / 4294967296) % 4294967296 + 0) = (B + A / 4294967296) % 4294967296 := by rw [IntKind.wrap_u64]; omega
  have g2 : IntKind.u64.wrap (0 + (B + A / 4294967296) / 4294967296) = (B + A / 4294967296) / 4294967296 := by rw [IntKind.wrap_u64]; omega
  have g3 : IntKind.u64.wrap ((B + A / 4294967296) / 4294967296 + (B + A / 4294967296) % 4294967296 / 4294967296) = x * n / 18446744073709551616 := by rw [IntKind.wrap_u64, hX]; omega
  have E1 := Hid.mk'' e1
  have E2 := Hid.mk'' e2
  have E3 := Hid.mk'' e3
  have E4 := Hid.mk'' e4
  have F1 := Hid.mk'' f1
  have F2 := Hid.mk'' f2
  have F3 := Hid.mk'' f3
  have F4 := Hid.mk'' f4
  have F5 := Hid.mk'' f5
  have F6 := Hid.mk'' f6
  have F7 := Hid.mk'' f7
  have G1 := Hid.mk'' g1
  have G2 := Hid.mk'' g2
  have G3 := Hid.mk'' g3
  clear e1 e2 e3 e4 f1 f2 f3 f4 f5 f6 f7 g1 g2 g3 hA hB hA0 hB0 hA1 hB1 hX hxl hxh
  go_enter Tryf.func32, Tryf.ntmps32
  go_wp2_with fail
  refine bodyPost_ret (v := .tuple #[.int .u64 (x * n / 18446744073709551616), .int .u64 (x * n % 18446744073709551616)]) ?_ rfl ⟨rfl, rfl⟩
  simp [results, Tryf.results32, go_sem, E1.out, E2.out, E3.out, E4.out, F1.out, F2.out, F3.out, F4.out, F5.out, F6.out, F7.out]
  rw [show IntKind.u64.wrap 0 = 0 from rfl, G2.out, G1.out, G3.out]


/-- A draw below n. -/
def Below' (n : Nat) (k : IntKind) (tb : Nat) (w : World) (e : Ending) (w' : World) : Prop := ∃ j : Nat, e = .returned (.int k j) ∧ j < n ∧ TS w' tb ∧ Kept w w' (fun k => k = tb)

theorem and_lt (x : Int) (n : Nat) (hx : 0 ≤ x) (hx2 : x < 18446744073709551616) (h1 : 1 ≤ n) (h2 : n ≤ 256) : ∃ j : Nat, bits .and .u64 x ((n : Int) - 1) = (j : Int) ∧ j < n := by
  rw [u64_and x ((n : Int) - 1) hx hx2 (by omega) (by omega)]
  refine ⟨_, rfl, ?_⟩
  have := @Nat.and_le_right x.toNat ((n : Int) - 1).toNat
  omega
theorem hi_lt (x : Int) (n : Nat) (hx : 0 ≤ x) (hx2 : x < 18446744073709551616) (h1 : 1 ≤ n) : ∃ j : Nat, x * n / 18446744073709551616 = (j : Int) ∧ j < n := by
  have h0 : 0 ≤ x * n := Int.mul_nonneg hx (by omega)
  have h3 : x * n < 18446744073709551616 * n := Int.mul_lt_mul_of_pos_right hx2 (by omega)
  exact ⟨(x * n / 18446744073709551616).toNat, by omega, by omega⟩

set_option maxRecDepth 100000 in
set_option maxHeartbeats 2000000 in
theorem u64n_any (rb tb : Nat) (n : Nat) (w : World) (h : RS w rb tb) (h1 : 1 ≤ n) (h2 : n ≤ 256) : Calls Tryf.prog 28 #[.pointer (some ⟨rb, 0, none⟩), .int .u64 n] w (Below' n .u64 tb w) := by
  have HR := Hid.mk'' h
  have i1 : IntKind.u64.wrap ((n : Int) - 1) = (n : Int) - 1 := by rw [IntKind.wrap_u64]; omega
  clear h
  by_cases hp : bits .and .u64 (n : Int) ((n : Int) - 1) = 0
  · have i2 : (bits .and .u64 (n : Int) ((n : Int) - 1) == 0) = true := by simp [hp]
    go_enter Tryf.func28, Tryf.ntmps28
    go_wp2_with (refine (draw_any rb tb w HR.out).mono ?_; rintro e w1 ⟨x, rfl, hD, hT1, hK⟩; have HD := Hid.mk'' hD; have HT1 := Hid.mk'' hT1; have HK := Hid.mk'' hK; clear hD hT1 hK)
    go_ret
    obtain ⟨j, hj, hjn⟩ := and_lt x n HD.out.1 HD.out.2.1 h1 h2
    exact ⟨j, by rw [hj]; rfl, hjn, HT1.out, HK.out⟩
  · have i2 : (bits .and .u64 (n : Int) ((n : Int) - 1) == 0) = false := by simp [hp]
    go_enter Tryf.func28, Tryf.ntmps28
    go_wp2_with (first | (refine (draw_any rb tb w HR.out).mono ?_; rintro e w1 ⟨x, rfl, hD, hT1, hK⟩; have HD := Hid.mk'' hD; have HT1 := Hid.mk'' hT1; have HK := Hid.mk'' hK; clear hD hT1 hK) | (refine (mul_any x n w1 HD.out.1 HD.out.2.1 (by omega) (by omega)).mono ?_; rintro e w2 ⟨rfl, rfl⟩; obtain ⟨lo, hlo⟩ : ∃ lo, x * (n : Int) % 18446744073709551616 = lo := ⟨_, rfl⟩; obtain ⟨hi, hhi⟩ : ∃ hi, x * (n : Int) / 18446744073709551616 = hi := ⟨_, rfl⟩; have HLo := Hid.mk'' hlo; have HHi := Hid.mk'' hhi; rw [hlo, hhi]; clear hlo hhi) | fail)
    · have hge : ¬ lo < (IntKind.u64.wrap (-(n : Int))).tmod n := by
        have h := HD.out.2.2 n h1 h2
        unfold Fit at h
        rw [HLo.out] at h
        have e2 : IntKind.u64.wrap (-(n : Int)) = 18446744073709551616 - n := by rw [IntKind.wrap_u64]; omega
        rw [e2, Int.tmod_eq_emod_of_nonneg (by omega)]
        exact h
      refine wp_loop_rounds 1 ?_
      rw [rounds_succ]
      go_wp2_with fail
      go_ret
      obtain ⟨j, hj, hjn⟩ := hi_lt x n HD.out.1 HD.out.2.1 h1
      rw [HHi.out] at hj
      exact ⟨j, by rw [hj]; rfl, hjn, HT1.out, HK.out⟩
    · go_ret
      obtain ⟨j, hj, hjn⟩ := hi_lt x n HD.out.1 HD.out.2.1 h1
      rw [HHi.out] at hj
      exact ⟨j, by rw [hj]; rfl, hjn, HT1.out, HK.out⟩

set_option maxRecDepth 100000 in
theorem intn_any (rb tb : Nat) (n : Nat) (w : World) (h : RS w rb tb) (h1 : 1 ≤ n) (h2 : n ≤ 256) : Calls Tryf.prog 22 #[.pointer (some ⟨rb, 0, none⟩), .int .i64 n] w (Below' n .i64 tb w) := by
  have HR := Hid.mk'' h
  have i1 : ¬ (n : Int) ≤ 0 := by omega
  have i2 : IntKind.u64.wrap (n : Int) = n := by rw [IntKind.wrap_u64]; omega
  clear h
  go_enter Tryf.func22, Tryf.ntmps22
  go_wp2_with (refine (u64n_any rb tb n w HR.out h1 h2).mono ?_; rintro e w1 ⟨j, rfl, hj, hT1, hK⟩; have HT1 := Hid.mk'' hT1; have HK := Hid.mk'' hK; have i3 : IntKind.i64.wrap (j : Int) = j := by { rw [IntKind.wrap_i64]; omega }; clear hT1 hK)
  go_ret
  exact ⟨j, rfl, hj, HT1.out, HK.out⟩

theorem new_any (v : Value) (w : World) (T : TypeId) (p : Option Addr) (hv : v = .iface T (.pointer p)) : Calls Tryf.prog 21 #[v] w fun e w' => e = .returned (.pointer (some ⟨w.heap.size, 0, none⟩)) ∧ w' = w.alloc (.cells #[v] 82) := by
  subst hv
  go_enter Tryf.func21, Tryf.ntmps21
  go_wp2_with fail
  go_ret
  exact ⟨rfl, rfl⟩

end Go.Proofs.Qxb6003861aFmt
