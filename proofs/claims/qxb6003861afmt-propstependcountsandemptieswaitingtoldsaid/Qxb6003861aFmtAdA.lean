import Derived.Test.Qxb6003861aFmtKitP
import Derived.Test.Qxb6003861aFmtRows
import Derived.Laws.Cover3
import Derived.Deep.CutRange
namespace Go.Proofs.Qxb6003861aFmt
open Go.RowKit
set_option linter.unusedVariables false
set_option linter.unusedSimpArgs false

theorem Hid.mk'' {p : Prop} (h : p) : Hid p := h

/-- Integers as they lie. -/
def ic (l : List Int) : List Value := l.map fun z => .int .i64 z
theorem ic_length (l : List Int) : (ic l).length = l.length := by simp [ic]
theorem ic_get (l : List Int) (i : Nat) (hi : i < l.length) : (ic l)[i]? = some (.int .i64 (l.getD i 0)) := by
  simp [ic, List.getD, List.getElem?_eq_getElem hi]

/-- The binary search's place. -/
def bsl (l : List Int) (v : Int) : Nat → Nat → Nat → Nat
  | 0, lo, _ => lo
  | f + 1, lo, hi => if lo < hi then (if l.getD (lo + (hi - lo) / 2) 0 < v then bsl l v f (lo + (hi - lo) / 2 + 1) hi else bsl l v f lo (lo + (hi - lo) / 2)) else lo
/-- c1Place, plain. -/
def pl (l : List Int) (v : Int) : Option Nat := if bsl l v l.length 0 l.length < l.length ∧ l.getD (bsl l v l.length 0 l.length) 0 = v then some (bsl l v l.length 0 l.length) else none
theorem pl_lt {l : List Int} {v : Int} {i : Nat} (h : pl l v = some i) : i < l.length := by
  unfold pl at h
  split at h
  · rename_i hh
    cases h
    exact hh.1
  · cases h
theorem bsl_more (l : List Int) (v : Int) : ∀ f lo hi, hi - lo ≤ f → bsl l v (f + 1) lo hi = bsl l v f lo hi
  | 0, lo, hi, h => by
    have : ¬ lo < hi := by omega
    simp [bsl, this]
  | f + 1, lo, hi, h => by
    by_cases hlt : lo < hi
    · have e1 : bsl l v (f + 1 + 1) lo hi = if l.getD (lo + (hi - lo) / 2) 0 < v then bsl l v (f + 1) (lo + (hi - lo) / 2 + 1) hi else bsl l v (f + 1) lo (lo + (hi - lo) / 2) := by
        rw [bsl, if_pos hlt]
      have e2 : bsl l v (f + 1) lo hi = if l.getD (lo + (hi - lo) / 2) 0 < v then bsl l v f (lo + (hi - lo) / 2 + 1) hi else bsl l v f lo (lo + (hi - lo) / 2) := by
        rw [bsl, if_pos hlt]
      rw [e1, e2, bsl_more l v f _ _ (by omega), bsl_more l v f _ _ (by omega)]
    · rw [bsl, if_neg hlt, bsl, if_neg hlt]
theorem bsl_fuel (l : List Int) (v : Int) (lo hi : Nat) : ∀ f g, hi - lo ≤ f → f ≤ g → bsl l v g lo hi = bsl l v f lo hi := by
  intro f g h hg
  induction g with
  | zero =>
    have : f = 0 := by omega
    rw [this]
  | succ g ih =>
    by_cases e : f = g + 1
    · rw [e]
    · rw [bsl_more l v g lo hi (by omega)]; exact ih (by omega)
theorem bsl_left {l : List Int} {v : Int} {f lo hi : Nat} (hf : hi - lo ≤ f) (hlt : lo < hi) (h : l.getD (lo + (hi - lo) / 2) 0 < v) : bsl l v f lo hi = bsl l v f (lo + (hi - lo) / 2 + 1) hi := by
  cases f with
  | zero => omega
  | succ f =>
    rw [bsl_more l v f (lo + (hi - lo) / 2 + 1) hi (by omega)]
    rw [bsl, if_pos hlt, if_pos h]
theorem bsl_right {l : List Int} {v : Int} {f lo hi : Nat} (hf : hi - lo ≤ f) (hlt : lo < hi) (h : ¬ l.getD (lo + (hi - lo) / 2) 0 < v) : bsl l v f lo hi = bsl l v f lo (lo + (hi - lo) / 2) := by
  cases f with
  | zero => omega
  | succ f =>
    rw [bsl_more l v f lo (lo + (hi - lo) / 2) (by omega)]
    rw [bsl, if_pos hlt, if_neg h]
theorem bsl_end {l : List Int} {v : Int} {f lo hi : Nat} (hlt : ¬ lo < hi) : bsl l v f lo hi = lo := by
  cases f with
  | zero => rfl
  | succ f => rw [bsl, if_neg hlt]

set_option maxRecDepth 100000 in
set_option maxHeartbeats 2000000 in
theorem place_any (ao : Option Addr) (cap : Nat) (l : List Int) (v : Int) (w : World) (hV : View w ao (ic l)) (hle : l.length ≤ 1000000) :
    Calls Tryf.prog 8 #[.slice ao l.length cap, .int .i64 v] w fun e w' => e = .returned (.tuple #[.int .i64 ((pl l v).getD 0 : Nat), .bool (pl l v).isSome]) ∧ w' = w := by
  have HV := Hid.mk'' hV
  obtain ⟨n, hn⟩ : ∃ n, n = l.length := ⟨_, rfl⟩
  have HN : Hid (n = l.length) := hn
  rw [← hn] at hle ⊢
  have j1 : (n : Int) ≤ 1000000 := by omega
  clear hV hn
  go_enter Tryf.func8, Tryf.ntmps8
  go_wp2
  go_loopw [6, 7] (fun a b wr => ∃ (lo hi : Nat), lo ≤ hi ∧ hi ≤ n ∧ a = .int .i64 lo ∧ b = .int .i64 hi ∧ Hid (bsl l v n lo hi = bsl l v n 0 n) ∧ wr = w) (fun a b _ => (intOf b).toNat - (intOf a).toNat)
  case atStart => exact ⟨0, n, Nat.zero_le _, Nat.le_refl _, rfl, rfl, rfl, rfl⟩
  case round =>
    obtain ⟨lo, hi, hlh, hhn, rfl, rfl, HB, rfl⟩ := hrel
    by_cases hlt : lo < hi
    · obtain ⟨mid, hmid⟩ : ∃ mid, mid = lo + (hi - lo) / 2 := ⟨_, rfl⟩
      have m1 : lo ≤ mid := by omega
      have m2 : mid < hi := by omega
      obtain ⟨b1, o1, q1, _, hc1⟩ := HV.out.at (j := mid) (by rw [ic_length, ← HN.out]; omega)
      subst q1
      obtain ⟨z, hz⟩ : ∃ z, z = l.getD mid 0 := ⟨_, rfl⟩
      have d1 : wr.cell? ⟨b1, o1 + mid, none⟩ = some (.int .i64 z) := hc1 mid _ (by rw [hz]; exact ic_get l mid (by rw [← HN.out]; omega))
      have HZ : Hid (l.getD mid 0 = z) := hz.symm
      have i0 : (lo : Int) < (hi : Int) := by omega
      have i1 : (0 : Int) ≤ (mid : Int) := by omega
      have i2 : (mid : Int) < (n : Int) := by omega
      have i3 : IntKind.i64.wrap ((lo : Int) + ((hi : Int) - (lo : Int)) / 2) = (mid : Int) := by
        rw [IntKind.wrap_i64, hmid]; omega
      have HMid : Hid (lo + (hi - lo) / 2 = mid) := hmid.symm
      clear hc1 hz hmid
      by_cases hzv : z < v
      · have HLt := Hid.mk'' hzv
        go_wp2_with fail
        go_roundw
        case rel =>
          refine ⟨mid + 1, hi, by omega, hhn, by go_num, rfl, ?_, by first | rfl | trivial⟩
          show bsl l v n (mid + 1) hi = _
          rw [← HB.out, bsl_left (by omega) hlt (by rw [HMid.out, HZ.out]; exact HLt.out), HMid.out]
        case measure => simp [intOf]; omega
      · have HLt := Hid.mk'' hzv
        go_wp2_with fail
        go_roundw
        case rel =>
          refine ⟨lo, mid, by omega, by omega, rfl, rfl, ?_, by first | rfl | trivial⟩
          show bsl l v n lo mid = _
          rw [← HB.out, bsl_right (by omega) hlt (by rw [HMid.out, HZ.out]; exact HLt.out), HMid.out]
        case measure => simp [intOf]; omega
    · have i0 : ¬ (lo : Int) < (hi : Int) := by omega
      have HE : Hid (bsl l v l.length 0 l.length = lo) := by have h := HB.out; rw [bsl_end hlt, HN.out] at h; exact h.symm
      by_cases hln : lo < n
      · obtain ⟨b1, o1, q1, _, hc1⟩ := HV.out.at (j := lo) (by rw [ic_length, ← HN.out]; omega)
        subst q1
        obtain ⟨z, hz⟩ : ∃ z, z = l.getD lo 0 := ⟨_, rfl⟩
        have d1 : wr.cell? ⟨b1, o1 + lo, none⟩ = some (.int .i64 z) := hc1 lo _ (by rw [hz]; exact ic_get l lo (by rw [← HN.out]; omega))
        have HZ : Hid (l.getD lo 0 = z) := hz.symm
        have i1 : (0 : Int) ≤ (lo : Int) := by omega
        have i2 : (lo : Int) < (n : Int) := by omega
        have i4 : decide ((lo : Int) < (n : Int)) = true := decide_eq_true i2
        clear hc1 hz
        by_cases hzv : z = v
        · have HPl : Hid (pl l v = some lo) := by
            unfold pl
            rw [Hid, HE.out, if_pos ⟨by rw [← HN.out]; exact hln, by rw [HZ.out]; exact hzv⟩]
          have i5 : (z == v) = true := by simp [hzv]
          subst hzv
          go_wp2_with fail
          refine bodyPost_ret (v := .tuple #[.int .i64 (lo : Int), .bool true]) (by simp [results, Tryf.results8, go_sem]) rfl ?_
          exact ⟨by rw [HPl.out]; rfl, rfl⟩
        · have HPl : Hid (pl l v = none) := by
            unfold pl
            rw [Hid, HE.out, if_neg (by rw [HZ.out]; exact fun h => hzv h.2)]
          have i5 : (z == v) = false := by simp [hzv]
          go_wp2_with fail
          refine bodyPost_ret (v := .tuple #[.int .i64 0, .bool false]) (by simp [results, Tryf.results8, go_sem]) rfl ?_
          exact ⟨by rw [HPl.out]; rfl, rfl⟩
      · have i2 : ¬ (lo : Int) < (n : Int) := by omega
        have i4 : decide ((lo : Int) < (n : Int)) = false := decide_eq_false i2
        have HPl : Hid (pl l v = none) := by
          unfold pl
          rw [Hid, HE.out, if_neg (by rw [← HN.out]; exact fun h => hln h.1)]
        go_wp2_with fail
        refine bodyPost_ret (v := .tuple #[.int .i64 0, .bool false]) (by simp [results, Tryf.results8, go_sem]) rfl ?_
        exact ⟨by rw [HPl.out]; rfl, rfl⟩

/-- A guarded sum: the wrapped number, and some answer. -/
def Summed (c : Int) (w : World) (e : Ending) (w' : World) : Prop := (∃ ok : Bool, e = .returned (.tuple #[.int .i64 c, .bool ok])) ∧ w' = w
theorem add_any (a b : Int) (w : World) : Calls Tryf.prog 9 #[.int .i64 a, .int .i64 b] w (Summed (wrap64 (a + b)) w) := by
  obtain ⟨c, hc⟩ : ∃ c, wrap64 (a + b) = c := ⟨_, rfl⟩
  rw [hc]
  by_cases h1 : (0 : Int) < b
  · have k1 : decide ((0 : Int) < b) = true := decide_eq_true h1
    by_cases h2 : c < a
    · have k2 : decide (c < a) = true := decide_eq_true h2
      go_enter Tryf.func9, Tryf.ntmps9
      go_wp2_with fail
      refine bodyPost_ret (v := .tuple #[.int .i64 c, .bool false]) (by simp [results, Tryf.results9, go_sem, hc]) rfl ?_
      exact ⟨⟨_, rfl⟩, rfl⟩
    · have k2 : decide (c < a) = false := decide_eq_false h2
      have h3 : ¬ b < 0 := by omega
      have k3 : decide (b < 0) = false := decide_eq_false h3
      go_enter Tryf.func9, Tryf.ntmps9
      go_wp2_with fail
      refine bodyPost_ret (v := .tuple #[.int .i64 c, .bool true]) (by simp [results, Tryf.results9, go_sem, hc]) rfl ?_
      exact ⟨⟨_, rfl⟩, rfl⟩
  · have k1 : decide ((0 : Int) < b) = false := decide_eq_false h1
    by_cases h3 : b < 0
    · have k3 : decide (b < 0) = true := decide_eq_true h3
      by_cases h2 : a < c
      · have k2 : decide (a < c) = true := decide_eq_true h2
        go_enter Tryf.func9, Tryf.ntmps9
        go_wp2_with fail
        refine bodyPost_ret (v := .tuple #[.int .i64 c, .bool false]) (by simp [results, Tryf.results9, go_sem, hc]) rfl ?_
        exact ⟨⟨_, rfl⟩, rfl⟩
      · have k2 : decide (a < c) = false := decide_eq_false h2
        go_enter Tryf.func9, Tryf.ntmps9
        go_wp2_with fail
        refine bodyPost_ret (v := .tuple #[.int .i64 c, .bool true]) (by simp [results, Tryf.results9, go_sem, hc]) rfl ?_
        exact ⟨⟨_, rfl⟩, rfl⟩
    · have k3 : decide (b < 0) = false := decide_eq_false h3
      go_enter Tryf.func9, Tryf.ntmps9
      go_wp2_with fail
      refine bodyPost_ret (v := .tuple #[.int .i64 c, .bool true]) (by simp [results, Tryf.results9, go_sem, hc]) rfl ?_
      exact ⟨⟨_, rfl⟩, rfl⟩

/-- A guarded difference: 'true' where it does not wrap. -/
def Subbed (a b : Int) (w : World) (e : Ending) (w' : World) : Prop := (∃ ok : Bool, e = .returned (.tuple #[.int .i64 (wrap64 (a - b)), .bool ok]) ∧ (ok = true → wrap64 (a - b) = a - b)) ∧ w' = w
theorem sub_fits {a b : Int} (ha0 : -9223372036854775808 ≤ a) (ha1 : a ≤ 9223372036854775807) (hb0 : -9223372036854775808 ≤ b) (hb1 : b ≤ 9223372036854775807) (h1 : ¬ (0 < b ∧ a < wrap64 (a - b))) (h2 : ¬ (b < 0 ∧ wrap64 (a - b) < a)) : wrap64 (a - b) = a - b := by
  have hw : wrap64 (a - b) = (a - b + 9223372036854775808) % 18446744073709551616 - 9223372036854775808 := by first | rfl | (unfold wrap64; rfl) | simp [wrap64]
  generalize wrap64 (a - b) = c at *
  omega
theorem sub_any (a b : Int) (w : World) (ha0 : -9223372036854775808 ≤ a) (ha1 : a ≤ 9223372036854775807) (hb0 : -9223372036854775808 ≤ b) (hb1 : b ≤ 9223372036854775807) : Calls Tryf.prog 10 #[.int .i64 a, .int .i64 b] w (Subbed a b w) := by
  have HF := Hid.mk'' (sub_fits ha0 ha1 hb0 hb1)
  obtain ⟨c, hc⟩ : ∃ c, wrap64 (a - b) = c := ⟨_, rfl⟩
  have HC : Hid (wrap64 (a - b) = c) := hc
  clear ha0 ha1 hb0 hb1
  by_cases h1 : (0 : Int) < b
  · have k1 : decide ((0 : Int) < b) = true := decide_eq_true h1
    by_cases h2 : a < c
    · have k2 : decide (a < c) = true := decide_eq_true h2
      go_enter Tryf.func10, Tryf.ntmps10
      go_wp2_with fail
      refine bodyPost_ret (v := .tuple #[.int .i64 c, .bool false]) (by simp [results, Tryf.results10, go_sem, hc]) rfl ?_
      exact ⟨⟨false, by rw [HC.out], fun h => by cases h⟩, rfl⟩
    · have k2 : decide (a < c) = false := decide_eq_false h2
      have h3 : ¬ b < 0 := by omega
      have k3 : decide (b < 0) = false := decide_eq_false h3
      have HT : Hid (wrap64 (a - b) = a - b) := HF.out (by rw [hc]; exact fun h => h2 h.2) (fun h => h3 h.1)
      go_enter Tryf.func10, Tryf.ntmps10
      go_wp2_with fail
      refine bodyPost_ret (v := .tuple #[.int .i64 c, .bool true]) (by simp [results, Tryf.results10, go_sem, hc]) rfl ?_
      exact ⟨⟨true, by rw [HC.out], fun _ => HT.out⟩, rfl⟩
  · have k1 : decide ((0 : Int) < b) = false := decide_eq_false h1
    by_cases h3 : b < 0
    · have k3 : decide (b < 0) = true := decide_eq_true h3
      by_cases h2 : c < a
      · have k2 : decide (c < a) = true := decide_eq_true h2
        go_enter Tryf.func10, Tryf.ntmps10
        go_wp2_with fail
        refine bodyPost_ret (v := .tuple #[.int .i64 c, .bool false]) (by simp [results, Tryf.results10, go_sem, hc]) rfl ?_
        exact ⟨⟨false, by rw [HC.out], fun h => by cases h⟩, rfl⟩
      · have k2 : decide (c < a) = false := decide_eq_false h2
        have HT : Hid (wrap64 (a - b) = a - b) := HF.out (fun h => h1 h.1) (by rw [hc]; exact fun h => h2 h.2)
        go_enter Tryf.func10, Tryf.ntmps10
        go_wp2_with fail
        refine bodyPost_ret (v := .tuple #[.int .i64 c, .bool true]) (by simp [results, Tryf.results10, go_sem, hc]) rfl ?_
        exact ⟨⟨true, by rw [HC.out], fun _ => HT.out⟩, rfl⟩
    · have k3 : decide (b < 0) = false := decide_eq_false h3
      have HT : Hid (wrap64 (a - b) = a - b) := HF.out (fun h => h1 h.1) (fun h => h3 h.1)
      go_enter Tryf.func10, Tryf.ntmps10
      go_wp2_with fail
      refine bodyPost_ret (v := .tuple #[.int .i64 c, .bool true]) (by simp [results, Tryf.results10, go_sem, hc]) rfl ?_
      exact ⟨⟨true, by rw [HC.out], fun _ => HT.out⟩, rfl⟩

end Go.Proofs.Qxb6003861aFmt
