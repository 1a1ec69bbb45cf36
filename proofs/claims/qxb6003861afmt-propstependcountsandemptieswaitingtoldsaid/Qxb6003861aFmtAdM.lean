import Derived.Test.Qxb6003861aFmtAdI
import Derived.BigQuiet
import Derived.Laws.StructEq
namespace Go.Proofs.Qxb6003861aFmt
open Go.RowKit
set_option linter.unusedVariables false
set_option linter.unusedSimpArgs false

/-- n elements of sz integers each. -/
def IV (w : World) (ao : Option Addr) (n sz : Nat) : Prop := n = 0 ∨ ∃ g, ao = some ⟨g, 0, none⟩ ∧ ∀ k, k < n * sz → ∃ z, w.cell? ⟨g, k, none⟩ = some (.int .i64 z)
theorem IV.drewN {w : World} {ao : Option Addr} {n sz : Nat} (h : IV w ao n sz) (q : Nat) : IV (w.drewN q) ao n sz := h
def Someb (w : World) (e : Ending) (w' : World) : Prop := (∃ b, e = .returned (.bool b)) ∧ ∃ q, w' = w.drewN q

set_option maxRecDepth 100000 in
set_option maxHeartbeats 2000000 in
theorem sameInts_any (w : World) (ao bo : Option Addr) (n m ca cb : Nat) (h1 : IV w ao n 1) (h2 : IV w bo m 1) (hn : n ≤ 1000000) (hm : m ≤ 1000000) : Calls Tryf.prog 16 #[.slice ao n ca, .slice bo m cb] w (Someb w) := by
  have H1 := Hid.mk'' h1
  have H2 := Hid.mk'' h2
  clear h1 h2
  go_enter Tryf.func16, Tryf.ntmps16
  by_cases he : n = m
  · subst he
    have j0 : ¬ ((n : Int) ≠ (n : Int)) := by omega
    go_wp2
    go_loopw [5] (fun a wr => ∃ (k : Nat), k ≤ n ∧ a = .int .i64 k ∧ Hid (∃ q, wr = w.drewN q)) (fun a _ => n - (intOf a).toNat)
    case atStart => exact ⟨0, Nat.zero_le _, rfl, 0, rfl⟩
    case round =>
      obtain ⟨k, hk, rfl, HQ⟩ := hrel
      by_cases hlt : k < n
      · have f1 := H1.out
        have f2 := H2.out
        rcases f1 with f1 | ⟨g1, rfl, f1⟩
        · omega
        rcases f2 with f2 | ⟨g2, rfl, f2⟩
        · omega
        obtain ⟨z1, d1⟩ := f1 k (by omega)
        obtain ⟨z2, d2⟩ := f2 k (by omega)
        have d1 : wr.cell? ⟨g1, k, none⟩ = some (.int .i64 z1) := by obtain ⟨q, rfl⟩ := HQ.out; exact d1
        have d2 : wr.cell? ⟨g2, k, none⟩ = some (.int .i64 z2) := by obtain ⟨q, rfl⟩ := HQ.out; exact d2
        have i1 : (0 : Int) ≤ (k : Int) := by omega
        have i2 : (k : Int) < (n : Int) := by omega
        clear f1 f2
        go_wp2_with fail
        go_quiet (fail)
        by_cases hz : z1 = z2
        · go_wp2_with fail
          go_roundw
          case rel =>
            obtain ⟨q, hq⟩ := HQ.out
            exact ⟨k + 1, by omega, by go_num, _, by rw [hq, World.drewN_drewN]⟩
          case measure => simp [intOf]; omega
        · go_wp2_with fail
          go_ret
          obtain ⟨q, hq⟩ := HQ.out
          exact ⟨⟨_, rfl⟩, _, by rw [hq, World.drewN_drewN]⟩
      · have i2 : ¬ (k : Int) < (n : Int) := by omega
        go_wp2_with fail
        go_ret
        exact ⟨⟨_, rfl⟩, HQ.out⟩
  · have j0 : (n : Int) ≠ (m : Int) := by omega
    go_wp2
    go_ret
    exact ⟨⟨_, rfl⟩, 0, rfl⟩
theorem eq47 (a b c a' b' c' : Int) (w : World) : (Op.equalIn 10000 47 (.agg #[.int .i64 a, .int .i64 b, .int .i64 c]) (.agg #[.int .i64 a', .int .i64 b', .int .i64 c'])).run Tryf.prog w = .ok (decide ((a = a' ∧ b = b') ∧ c = c')) w := by
  have u3 := Tryf.underlying3
  have a3 := Tryf.isAgg3
  have z3 := Tryf.sizeOf3
  have u2 := Tryf.underlying2
  have a2 := Tryf.isAgg2
  have z2 := Tryf.sizeOf2
  have hS : Tryf.prog.underlying 47 = some (.struct (Tryf.prog.fieldsOf 47)) := by kernel_rfl
  have hp : Tryf.prog.stoodInHeld 47 = false := by kernel_rfl
  rw [show (10000 : Nat) = 9999 + 1 from rfl, run_equalIn_agg w 9999 47 _ _ hS hp]
  simp only [Program.fieldsOf, Tryf.underlying47]
  go_simp
  by_cases h1 : a = a' <;> by_cases h2 : b = b' <;> by_cases h3 : c = c' <;> simp [h1, h2, h3]
set_option maxRecDepth 100000 in
set_option maxHeartbeats 2000000 in
theorem sameTakes_any (w : World) (ao bo : Option Addr) (n m ca cb : Nat) (h1 : IV w ao n 3) (h2 : IV w bo m 3) (hn : n ≤ 1000000) (hm : m ≤ 1000000) : Calls Tryf.prog 19 #[.slice ao n ca, .slice bo m cb] w (Someb w) := by
  have H1 := Hid.mk'' h1
  have H2 := Hid.mk'' h2
  clear h1 h2
  go_enter Tryf.func19, Tryf.ntmps19
  by_cases he : n = m
  · subst he
    have j0 : ¬ ((n : Int) ≠ (n : Int)) := by omega
    go_wp2
    go_loopw [5] (fun a wr => ∃ (k : Nat), k ≤ n ∧ a = .int .i64 k ∧ Hid (∃ q, wr = w.drewN q)) (fun a _ => n - (intOf a).toNat)
    case atStart => exact ⟨0, Nat.zero_le _, rfl, 0, rfl⟩
    case round =>
      obtain ⟨k, hk, rfl, HQ⟩ := hrel
      by_cases hlt : k < n
      · have f1 := H1.out
        have f2 := H2.out
        rcases f1 with f1 | ⟨g1, rfl, f1⟩
        · omega
        rcases f2 with f2 | ⟨g2, rfl, f2⟩
        · omega
        have f1 : ∀ i, i < 3 → ∃ z, wr.cell? ⟨g1, k * 3 + i, none⟩ = some (.int .i64 z) := fun i hi => by obtain ⟨q, rfl⟩ := HQ.out; exact f1 (k * 3 + i) (by omega)
        have f2 : ∀ i, i < 3 → ∃ z, wr.cell? ⟨g2, k * 3 + i, none⟩ = some (.int .i64 z) := fun i hi => by obtain ⟨q, rfl⟩ := HQ.out; exact f2 (k * 3 + i) (by omega)
        obtain ⟨p0, d0⟩ := f1 0 (by omega)
        obtain ⟨p1, d1⟩ := f1 1 (by omega)
        obtain ⟨p2, d2⟩ := f1 2 (by omega)
        obtain ⟨q0, e0⟩ := f2 0 (by omega)
        obtain ⟨q1, e1⟩ := f2 1 (by omega)
        obtain ⟨q2, e2⟩ := f2 2 (by omega)
        rw [Nat.add_zero] at d0 e0
        have hq : ∀ w, (Op.equalIn 10000 47 (.agg #[.int .i64 p0, .int .i64 p1, .int .i64 p2]) (.agg #[.int .i64 q0, .int .i64 q1, .int .i64 q2])).run Tryf.prog w = _ := fun w => eq47 p0 p1 p2 q0 q1 q2 w
        obtain ⟨t, ht⟩ : ∃ t, t = decide ((p0 = q0 ∧ p1 = q1) ∧ p2 = q2) := ⟨_, rfl⟩
        rw [← ht] at hq
        clear ht
        have i1 : (0 : Int) ≤ (k : Int) := by omega
        have i2 : (k : Int) < (n : Int) := by omega
        clear f1 f2
        go_wp2_with fail
        go_quiet (fail)
        by_cases hz : t = true
        · subst hz
          go_wp2_with fail
          go_roundw
          case rel =>
            obtain ⟨q, hq⟩ := HQ.out
            exact ⟨k + 1, by omega, by go_num, _, by rw [hq, World.drewN_drewN]⟩
          case measure => simp [intOf]; omega
        · obtain rfl : t = false := by simpa using hz
          go_wp2_with fail
          go_ret
          obtain ⟨q, hq⟩ := HQ.out
          exact ⟨⟨_, rfl⟩, _, by rw [hq, World.drewN_drewN]⟩
      · have i2 : ¬ (k : Int) < (n : Int) := by omega
        go_wp2_with fail
        go_ret
        exact ⟨⟨_, rfl⟩, HQ.out⟩
  · have j0 : (n : Int) ≠ (m : Int) := by omega
    go_wp2
    go_ret
    exact ⟨⟨_, rfl⟩, 0, rfl⟩
end Go.Proofs.Qxb6003861aFmt
