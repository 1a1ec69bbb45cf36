import Derived.Test.Qxb6003861aFmtAdA
namespace Go.Proofs.Qxb6003861aFmt
open Go.RowKit
set_option linter.unusedVariables false
set_option linter.unusedSimpArgs false

/-- Words as they lie. -/
def uc (l : List Int) : List Value := l.map fun z => .int .u64 z
theorem uc_length (l : List Int) : (uc l).length = l.length := by simp [uc]
theorem uc_get (l : List Int) (i : Nat) (hi : i < l.length) : (uc l)[i]? = some (.int .u64 (l.getD i 0)) := by
  simp [uc, List.getD, List.getElem?_eq_getElem hi]
/-- A word that is taken at the first draw. -/
def Fit (x : Int) (n : Nat) : Prop := ¬ x * n % 18446744073709551616 < (18446744073709551616 - n) % n
def Fits (l : List Int) : Prop := ∀ i, i < l.length → ∀ n : Nat, 1 ≤ n → n ≤ 256 → Fit (l.getD i 0) n
def TapeAns (l : List Int) (w : World) (e : Ending) (w' : World) : Prop := (∃ b : Bool, e = .returned (.bool b) ∧ (b = true → Fits l)) ∧ w' = w

theorem fit_of {x : Int} {n : Nat} (h1 : 1 ≤ n) (h2 : n ≤ 256) (h : ¬ IntKind.u64.wrap (x * n) < (IntKind.u64.wrap (-(n : Int))).tmod n) : Fit x n := by
  unfold Fit
  have e1 : IntKind.u64.wrap (x * n) = x * n % 18446744073709551616 := by rw [IntKind.wrap_u64]
  have e2 : IntKind.u64.wrap (-(n : Int)) = 18446744073709551616 - n := by rw [IntKind.wrap_u64]; omega
  rw [e1, e2, Int.tmod_eq_emod_of_nonneg (by omega)] at h
  exact h

set_option maxRecDepth 100000 in
set_option maxHeartbeats 2000000 in
theorem tape_any (ao : Option Addr) (cap : Nat) (l : List Int) (w : World) (hV : View w ao (uc l)) (hle : l.length ≤ 1000000) (hr : ∀ x ∈ l, 0 ≤ x ∧ x < 18446744073709551616) :
    Calls Tryf.prog 5 #[.slice ao l.length cap] w (TapeAns l w) := by
  have HV := Hid.mk'' hV
  have HR := Hid.mk'' hr
  obtain ⟨N, hn⟩ : ∃ n, n = l.length := ⟨_, rfl⟩
  have HN : Hid (N = l.length) := hn
  rw [← hn] at hle ⊢
  have j1 : (N : Int) ≤ 1000000 := by omega
  clear hV hn hr
  go_enter Tryf.func5, Tryf.ntmps5
  go_wp2
  go_loopw [3] (fun a wr => ∃ (k : Nat), k ≤ N ∧ a = .int .i64 k ∧ Hid (∀ i, i < k → ∀ n : Nat, 1 ≤ n → n ≤ 256 → Fit (l.getD i 0) n) ∧ wr = w) (fun a _ => N - (intOf a).toNat)
  case atStart => exact ⟨0, Nat.zero_le _, rfl, (fun i h => absurd h (Nat.not_lt_zero _)), rfl⟩
  case round =>
    obtain ⟨k, hk, rfl, HF, rfl⟩ := hrel
    by_cases hlt : k < N
    · obtain ⟨b1, o1, q1, _, hc1⟩ := HV.out.at (j := k) (by rw [uc_length, ← HN.out]; omega)
      subst q1
      obtain ⟨x, hx⟩ : ∃ x, x = l.getD k 0 := ⟨_, rfl⟩
      have d1 : wr.cell? ⟨b1, o1 + k, none⟩ = some (.int .u64 x) := hc1 k _ (by rw [hx]; exact uc_get l k (by rw [← HN.out]; omega))
      have HX : Hid (l.getD k 0 = x) := hx.symm
      have i1 : (0 : Int) ≤ (k : Int) := by omega
      have i2 : (k : Int) < (N : Int) := by omega
      clear hc1 hx
      go_wp2_with fail
      go_loopw [5] (fun a w2 => ∃ (n : Nat), 1 ≤ n ∧ n ≤ 257 ∧ a = .int .u64 n ∧ Hid (∀ m : Nat, 1 ≤ m → m < n → Fit x m) ∧ w2 = wr) (fun a _ => 257 - (intOf a).toNat)
      case atStart => exact ⟨1, Nat.le_refl _, by omega, rfl, (fun m h1 h2 => by omega), rfl⟩
      case round =>
        obtain ⟨n, hn1, hn2, rfl, HM, rfl⟩ := hrel
        by_cases hle2 : n ≤ 256
        · have i3 : (n : Int) ≤ 256 := by omega
          have i4 : ¬ (n : Int) = 0 := by omega
          have i5 : (0 : Int) < (n : Int) := by omega
          by_cases hfit : IntKind.u64.wrap (x * n) < (IntKind.u64.wrap (-(n : Int))).tmod n
          · go_wp2_with fail
            go_ret
            exact ⟨⟨false, rfl, fun h => by cases h⟩, rfl⟩
          · have HFt : Hid (Fit x n) := fit_of hn1 hle2 hfit
            go_wp2_with fail
            go_roundw
            case rel =>
              refine ⟨n + 1, by omega, by omega, by go_num, fun m h1 h2 => ?_, by first | rfl | trivial⟩
              by_cases hm : m < n
              · exact HM.out m h1 hm
              · obtain rfl : m = n := by omega
                exact HFt.out
            case measure => simp [intOf]; omega
        · have i3 : ¬ (n : Int) ≤ 256 := by omega
          go_wp2_with fail
          go_roundw
          case rel =>
            refine ⟨k + 1, by omega, by go_num, fun i hi m h1 h2 => ?_, by first | rfl | trivial⟩
            by_cases hik : i < k
            · exact HF.out i hik m h1 h2
            · obtain rfl : i = k := by omega
              rw [HX.out]
              exact HM.out m h1 (by omega)
          case measure => simp [intOf]; omega
    · have i2 : ¬ (k : Int) < (N : Int) := by omega
      go_wp2_with fail
      go_ret
      exact ⟨⟨true, rfl, fun _ i hi m h1 h2 => HF.out i (by have := HN.out; omega) m h1 h2⟩, rfl⟩

end Go.Proofs.Qxb6003861aFmt
