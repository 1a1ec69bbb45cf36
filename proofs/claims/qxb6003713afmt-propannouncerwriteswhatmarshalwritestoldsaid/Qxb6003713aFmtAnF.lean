import Derived.Test.Qxb6003713aFmtAnE
import Derived.Laws.Cover3
namespace Go.Proofs.Qxb6003713aFmt
open Go.RowKit
set_option linter.unusedVariables false
set_option linter.unusedSimpArgs false

theorem Hid.mk'' {p : Prop} (h : p) : Hid p := h

set_option maxHeartbeats 1000000 in
set_option maxRecDepth 100000 in
theorem attr_big (fl fx : Int) (cn B : Nat) (b : Value) (l : List UInt8) (ao : Option Addr) (cap : Nat) (v : List UInt8) (w : World) (hc : cn < 256) (hf0 : 0 ≤ fl) (hf : fl < 256) (hx : bits .or .u8 fl 16 = fx) (hx0 : 0 ≤ fx) (hx1 : fx < 256)
    (hO : OB 5 B w b l) (hB : B ≤ w.heap.size) (hlen : l.length ≤ 1000000) (hv : v.length ≤ 65000) (hV : View w ao (bc v)) (hnil : ao = none → v = []) (hne : ∀ k o, ao = some ⟨k, o, none⟩ → b.ownBlock ≠ some k)
    (hg : w.cell? ⟨5, cn, none⟩ = some (.int .u8 fl)) (h5 : 5 < B) :
    Calls Tryf.prog 57 #[b, .int .u8 cn, .slice ao v.length cap] w fun e w' => ∃ b', e = .returned b' ∧ OB 5 B w' b' (l ++ attr fl cn v) ∧ Ext w w' b b' := by
  obtain ⟨i0, hi, hz0, hz1, hz2⟩ := info_parts Tryf.info5
  have ic : (cn : Int) < 256 := by omega
  have HV : Hid (View w ao (bc v)) := hV
  have HNil : Hid (ao = none → v = []) := hnil
  have HNe : Hid (∀ k o, ao = some ⟨k, o, none⟩ → b.ownBlock ≠ some k) := hne
  clear hV hnil hne
  have hd : ∀ o, (w.alloc o).cell? ⟨5, cn, none⟩ = some (.int .u8 fl) := fun o => cell_later ((Below.refl _ _).alloc (Nat.le_refl _) o) hg
  by_cases hbig : 255 < v.length
  · unfold attr
    rw [if_pos hbig, hx]
    have HB : Hid (bc [by8 fx, by8 cn] = [Value.int .u8 fx, Value.int .u8 cn]) := by
      show [Value.int .u8 _, Value.int .u8 _] = _
      rw [by8_nat _ (by omega) (by omega), by8_nat _ (by omega) (by omega)]
    have ib : (255 : Int) < (v.length : Int) := by omega
    go_enter Tryf.func57, Tryf.ntmps57
    go_wp2_with (first
      | (at_builtin; have _tok := hO4; go_must (refine wpList_append_any _ rfl (.tmp 34) (.tmp 35) 23 23 rfl B 5 i0 (.int .u8 0) 1 1 Tryf.underlying23 hi hz0 hz1 hz2 rfl _ _ _ rfl hO4 _ v.length (bc v) rfl (Src.view _ Tryf.underlying23 ao v cap (HV.out.ext hE4 HNe.out) HNil.out) (by unfold maxLen; simp [be16]; omega) (by simp [be16]; omega) (Nat.le_trans hB hE4.size) ?_); intro v5 w5 hown5 hext5 _ _)
      | (go_at_call 46; go_must (refine (app16_any (v.length : Int) B _ (l ++ [by8 fx, by8 cn]) _ (by omega) (by omega) hO3 (Nat.le_trans hB hE3.size) (by simp; omega)).mono ?_); rintro e w4 ⟨v4, rfl, hO4, hE34, _⟩; have hE4 := hE3.trans hE34; clear hE34)
      | (at_builtin; go_must (refine wpList_append_any _ rfl (.tmp 10) (.tmp 16) 23 23 rfl B 5 i0 (.int .u8 0) 1 1 Tryf.underlying23 hi hz0 hz1 hz2 rfl _ l.length (bc l) rfl (hO.alloc _) _ 2 (bc [by8 fx, by8 cn]) rfl (Src.lit w Tryf.underlying23 [by8 fx, by8 cn] _ 2 2 5 (by rw [HB.out]) rfl) (by unfold maxLen; omega) (by omega) (by simp; omega) ?_); intro v3 w3 hown3 hext3 _ _; have hO3 : OB 5 B w3 v3 (l ++ [by8 fx, by8 cn]) := OB.app hown3 rfl; have hE3 := hext3.of_alloc; clear hown3 hext3))
    go_ret
    refine ⟨_, rfl, ?_, hE4.trans hext5⟩
    have := OB.app hown5 rfl
    simpa [List.append_assoc] using this
  · unfold attr
    rw [if_neg hbig]
    have HB : Hid (bc [by8 fl, by8 cn, by8 v.length] = [Value.int .u8 fl, Value.int .u8 cn, Value.int .u8 v.length]) := by
      show [Value.int .u8 _, Value.int .u8 _, Value.int .u8 _] = _
      rw [by8_nat _ (by omega) (by omega), by8_nat _ (by omega) (by omega), by8_nat _ (by omega) (by omega)]
    have ib : ¬ (255 : Int) < (v.length : Int) := by omega
    have ib2 : (v.length : Int) < 256 := by omega
    go_enter Tryf.func57, Tryf.ntmps57
    go_wp2_with (first
      | (at_builtin; have _tok := hO3; go_must (refine wpList_append_any _ rfl (.tmp 34) (.tmp 35) 23 23 rfl B 5 i0 (.int .u8 0) 1 1 Tryf.underlying23 hi hz0 hz1 hz2 rfl _ _ _ rfl hO3 _ v.length (bc v) rfl (Src.view _ Tryf.underlying23 ao v cap (HV.out.ext hE3 HNe.out) HNil.out) (by unfold maxLen; simp; omega) (by simp; omega) (Nat.le_trans hB hE3.size) ?_); intro v5 w5 hown5 hext5 _ _)
      | (at_builtin; go_must (refine wpList_append_any _ rfl (.tmp 24) (.tmp 32) 23 23 rfl B 5 i0 (.int .u8 0) 1 1 Tryf.underlying23 hi hz0 hz1 hz2 rfl _ l.length (bc l) rfl (hO.alloc _) _ 3 (bc [by8 fl, by8 cn, by8 v.length]) rfl (Src.lit w Tryf.underlying23 [by8 fl, by8 cn, by8 v.length] _ 3 3 5 (by rw [HB.out]) rfl) (by unfold maxLen; omega) (by omega) (by simp; omega) ?_); intro v3 w3 hown3 hext3 _ _; have hO3 : OB 5 B w3 v3 (l ++ [by8 fl, by8 cn, by8 v.length]) := OB.app hown3 rfl; have hE3 := hext3.of_alloc; clear hown3 hext3))
    go_ret
    refine ⟨_, rfl, ?_, hE3.trans hext5⟩
    have := OB.app hown5 rfl
    simpa [List.append_assoc] using this

theorem equal_any (a1 a2 : Option Addr) (c1 c2 : Nat) (l : List UInt8) (w : World) (hlen : l.length ≤ 2000000000) (h1 : View w a1 (bc l)) (h2 : View w a2 (bc l)) :
    Calls Tryf.prog 22 #[.slice a1 l.length c1, .slice a2 l.length c2] w fun e w' => e = .returned (.bool true) ∧ ∃ nq, w' = w.drewN nq := by
  have H1 : Hid (View w a1 (bc l)) := h1
  have H2 : Hid (View w a2 (bc l)) := h2
  clear h1 h2
  generalize hn : l.length = n at *
  have HN : Hid (l.length = n) := hn
  clear hn
  go_enter Tryf.func22, Tryf.ntmps22
  go_wp2
  go_loopw [5] (fun i wr => ∃ (k nq : Nat), k ≤ n ∧ i = .int .i64 k ∧ wr = w.drewN nq) (fun i _ => n - (intOf i).toNat)
  case atStart => exact ⟨0, 0, Nat.zero_le _, rfl, rfl⟩
  case round =>
    obtain ⟨k, nq, hk, rfl, rfl⟩ := hrel
    by_cases hlt : k < n
    · obtain ⟨b1, o1, q1, _, hc1⟩ := H1.out.at (j := k) (by rw [bc_length, HN.out]; omega)
      cases q1
      obtain ⟨b2, o2, q2, _, hc2⟩ := H2.out.at (j := k) (by rw [bc_length, HN.out]; omega)
      cases q2
      obtain ⟨z, hz⟩ : ∃ z : Int, (bc l)[k]? = some (.int .u8 z) := ⟨_, bc_get l k (by rw [HN.out]; omega)⟩
      have d1 := hc1 k _ hz
      have d2 := hc2 k _ hz
      have i1 : (0 : Int) ≤ (k : Int) := by omega
      have i2 : (k : Int) < (n : Int) := by omega
      clear hc1 hc2 hz
      go_wp2_with fail
      go_quiet (fail)
      go_wp2
      go_roundw
      case rel => exact ⟨k + 1, _, by omega, by go_num, rfl⟩
      case measure => simp [intOf]; omega
    · go_wp2
      go_ret
      exact ⟨rfl, nq, rfl⟩

/-- A number's four octets, appended. -/
theorem app32_any (x : Nat) (B : Nat) (v : Value) (l : List UInt8) (w : World) (hx : x < 4294967296) (hO : OB 5 B w v l) (hB : B ≤ w.heap.size) (hlen : l.length ≤ 2000000000) :
    Calls Tryf.prog 53 #[.agg #[], v, .int .u32 x] w fun e w' => ∃ v', e = .returned v' ∧ OB 5 B w' v' (l ++ b4 x) ∧ Ext w w' v v' ∧ OB 5 B w' v l := by
  obtain ⟨i0, hi, hz0, hz1, hz2⟩ := info_parts Tryf.info5
  have HB : Hid (bc (b4 x) = [Value.int .u8 ((x : Int) / 16777216 % 256), Value.int .u8 ((x : Int) / 65536 % 256), Value.int .u8 ((x : Int) / 256 % 256), Value.int .u8 ((x : Int) % 256)]) := by
    show [Value.int .u8 _, Value.int .u8 _, Value.int .u8 _, Value.int .u8 _] = _
    rw [by8_nat _ (by omega) (by omega), by8_nat _ (by omega) (by omega), by8_nat _ (by omega) (by omega), by8_nat _ (by omega) (by omega)]
    rfl
  clear hx
  go_enter Tryf.func53, Tryf.ntmps53
  go_wp2_with (at_builtin; go_must (refine wpList_append_any _ rfl (.tmp 7) (.tmp 19) 23 23 rfl B 5 i0 (.int .u8 0) 1 1 Tryf.underlying23 hi hz0 hz1 hz2 rfl _ l.length (bc l) rfl ((hO.alloc _).alloc _) _ 4 (bc (b4 x)) rfl (Src.litH _ Tryf.underlying23 (b4 x) _ 4 4 5 (w.heap.size + 1) (by simp) (by rw [HB.out]) rfl) (by unfold maxLen; omega) (by omega) (by simp; omega) ?_); intro v3 w3 hown3 hext3 _ hst3)
  go_ret
  exact ⟨_, rfl, OB.app hown3 rfl, hext3.of_alloc.of_alloc, hst3⟩


/-- A label's three octets. -/
def b3 (v : Nat) : List UInt8 := [by8 (v / 65536 % 256 : Nat), by8 (v / 256 % 256 : Nat), by8 (v % 256 : Nat)]
theorem lab_any (x : Nat) (B : Nat) (v : Value) (l : List UInt8) (w : World) (hx : x < 4294967296) (hO : OB 5 B w v l) (hB : B ≤ w.heap.size) (hlen : l.length ≤ 2000000000) :
    Calls Tryf.prog 55 #[.int .u32 x, v] w fun e w' => ∃ v', e = .returned v' ∧ OB 5 B w' v' (l ++ b3 x) ∧ Ext w w' v v' := by
  obtain ⟨i0, hi, hz0, hz1, hz2⟩ := info_parts Tryf.info5
  have HB : Hid (bc (b3 x) = [Value.int .u8 ((x : Int) / 65536 % 256), Value.int .u8 ((x : Int) / 256 % 256), Value.int .u8 ((x : Int) % 256)]) := by
    show [Value.int .u8 _, Value.int .u8 _, Value.int .u8 _] = _
    rw [by8_nat _ (by omega) (by omega), by8_nat _ (by omega) (by omega), by8_nat _ (by omega) (by omega)]
    rfl
  clear hx
  go_enter Tryf.func55, Tryf.ntmps55
  go_wp2_with (at_builtin; go_must (refine wpList_append_any _ rfl (.tmp 5) (.tmp 14) 23 23 rfl B 5 i0 (.int .u8 0) 1 1 Tryf.underlying23 hi hz0 hz1 hz2 rfl _ l.length (bc l) rfl (hO.alloc _) _ 3 (bc (b3 x)) rfl (Src.litH _ Tryf.underlying23 (b3 x) _ 3 3 5 w.heap.size (by simp) (by rw [HB.out]) rfl) (by unfold maxLen; omega) (by omega) (by simp; omega) ?_); intro v3 w3 hown3 hext3 _ hst3)
  go_ret
  exact ⟨_, rfl, OB.app hown3 rfl, hext3.of_alloc⟩

/-- The two ends' ASes, compared. -/
theorem internal_any (la pa : Nat) (a4 b : Bool) (w : World) (hb : decide (la = pa) = b) :
    Calls Tryf.prog 61 #[.agg #[.int .u32 la, .int .u32 pa, .bool a4]] w fun e w' => e = .returned (.bool b) ∧ Below w.heap.size w w' := by
  have HW := Hid.mk'' ((Below.refl w.heap.size w).alloc (Nat.le_refl _) (.cells #[.int .u32 la, .int .u32 pa, .bool a4] 44))
  have hb' : decide ((la : Int) = (pa : Int)) = b := by rw [← hb]; exact decide_eq_decide.mpr (by omega)
  have HB := Hid.mk'' hb'
  clear hb hb'
  go_enter Tryf.func61, Tryf.ntmps61
  go_wp2
  go_ret
  refine ⟨?_, HW.out⟩
  rw [← HB.out]
  try rfl
  try simp

end Go.Proofs.Qxb6003713aFmt
