import Derived.Test.Qxb6003713aFmtKitP
import Derived.Test.Qxb6003713aFmtMsgA
namespace Go.Proofs.Qxb6003713aFmt
open Go.RowKit
set_option linter.unusedVariables false
set_option linter.unusedSimpArgs false

/-- slices.Clip. -/
theorem clip_any (ao : Option Addr) (n cap : Nat) (w : World) (hn : n ≤ cap) (hcap : cap ≤ maxLen) (hnil : ao = none → n = 0 ∧ cap = 0) :
    Calls Tryf.prog 56 #[.slice ao n cap] w fun e w' => e = .returned (.slice ao n n) ∧ w' = w := by
  unfold maxLen at hcap
  cases ao with
  | none =>
    obtain ⟨rfl, rfl⟩ := hnil rfl
    go_enter Tryf.func56, Tryf.ntmps56
    go_wp2
    go_ret
    exact ⟨rfl, rfl⟩
  | some a =>
    have i1 : (0 : Int) ≤ (n : Int) := by omega
    have i2 : (n : Int) ≤ (cap : Int) := by omega
    go_enter Tryf.func56, Tryf.ntmps56
    go_wp2
    go_ret
    exact ⟨rfl, rfl⟩

/-- A path attribute. -/
def attr (fl code : Int) (v : List UInt8) : List UInt8 :=
  if 255 < v.length then [by8 (bits .or .u8 fl 16), by8 code] ++ be16 v.length ++ v else [by8 fl, by8 code, by8 v.length] ++ v

set_option maxHeartbeats 1000000 in
set_option maxRecDepth 100000 in
theorem attr_any (fl fx : Int) (cn B : Nat) (b : Value) (l : List UInt8) (ao : Option Addr) (cap : Nat) (v : List UInt8) (w : World) (hc : cn < 256) (hf0 : 0 ≤ fl) (hf : fl < 256) (hx : bits .or .u8 fl 16 = fx) (hx0 : 0 ≤ fx) (hx1 : fx < 256)
    (hO : OB 5 B w b l) (hB : B ≤ w.heap.size) (hlen : l.length ≤ 1000) (hv : v.length ≤ 65000) (hV : View w ao (bc v)) (hnil : ao = none → v = []) (hne : ∀ k o, ao = some ⟨k, o, none⟩ → b.ownBlock ≠ some k)
    (hg : w.cell? ⟨5, cn, none⟩ = some (.int .u8 fl)) (h5 : 5 < B) :
    Calls Tryf.prog 57 #[b, .int .u8 cn, .slice ao v.length cap] w fun e w' => ∃ b', e = .returned b' ∧ OB 5 B w' b' (l ++ attr fl cn v) ∧ Ext w w' b b' := by
  obtain ⟨i0, hi, hz0, hz1, hz2⟩ := info_parts Tryf.info5
  have ic : (cn : Int) < 256 := by omega
  have HV : Hid (View w ao (bc v)) := hV
  have HNil : Hid (ao = none → v = []) := hnil
  have HNe : Hid (∀ k o, ao = some ⟨k, o, none⟩ → b.ownBlock ≠ some k) := hne
  clear hV hnil hne
  have hd : ∀ o, (w.alloc o).cell? ⟨5, cn, none⟩ = some (.int .u8 fl) := fun o => cell_later ((Below.refl _ _).alloc (Nat.le_refl _) o) hg
  by_cases hbig : 255 < v.length
  · unfold attr
    rw [if_pos hbig, hx]
    have HB : Hid (bc [by8 fx, by8 cn] = [Value.int .u8 fx, Value.int .u8 cn]) := by
      show [Value.int .u8 _, Value.int .u8 _] = _
      rw [by8_nat _ (by omega) (by omega), by8_nat _ (by omega) (by omega)]
    have ib : (255 : Int) < (v.length : Int) := by omega
    go_enter Tryf.func57, Tryf.ntmps57
    go_wp2_with (first
      | (at_builtin; have _tok := hO4; go_must (refine wpList_append_any _ rfl (.tmp 34) (.tmp 35) 23 23 rfl B 5 i0 (.int .u8 0) 1 1 Tryf.underlying23 hi hz0 hz1 hz2 rfl _ _ _ rfl hO4 _ v.length (bc v) rfl (Src.view _ Tryf.underlying23 ao v cap (HV.out.ext hE4 HNe.out) HNil.out) (by unfold maxLen; simp [be16]; omega) (by simp [be16]; omega) (Nat.le_trans hB hE4.size) ?_); intro v5 w5 hown5 hext5 _ _)
      | (go_at_call 46; go_must (refine (app16_any (v.length : Int) B _ (l ++ [by8 fx, by8 cn]) _ (by omega) (by omega) hO3 (Nat.le_trans hB hE3.size) (by simp; omega)).mono ?_); rintro e w4 ⟨v4, rfl, hO4, hE34, _⟩; have hE4 := hE3.trans hE34; clear hE34)
      | (at_builtin; go_must (refine wpList_append_any _ rfl (.tmp 10) (.tmp 16) 23 23 rfl B 5 i0 (.int .u8 0) 1 1 Tryf.underlying23 hi hz0 hz1 hz2 rfl _ l.length (bc l) rfl (hO.alloc _) _ 2 (bc [by8 fx, by8 cn]) rfl (Src.lit w Tryf.underlying23 [by8 fx, by8 cn] _ 2 2 5 (by rw [HB.out]) rfl) (by unfold maxLen; omega) (by omega) (by simp; omega) ?_); intro v3 w3 hown3 hext3 _ _; have hO3 : OB 5 B w3 v3 (l ++ [by8 fx, by8 cn]) := OB.app hown3 rfl; have hE3 := hext3.of_alloc; clear hown3 hext3))
    go_ret
    refine ⟨_, rfl, ?_, hE4.trans hext5⟩
    have := OB.app hown5 rfl
    simpa [List.append_assoc] using this
  · unfold attr
    rw [if_neg hbig]
    have HB : Hid (bc [by8 fl, by8 cn, by8 v.length] = [Value.int .u8 fl, Value.int .u8 cn, Value.int .u8 v.length]) := by
      show [Value.int .u8 _, Value.int .u8 _, Value.int .u8 _] = _
      rw [by8_nat _ (by omega) (by omega), by8_nat _ (by omega) (by omega), by8_nat _ (by omega) (by omega)]
    have ib : ¬ (255 : Int) < (v.length : Int) := by omega
    have ib2 : (v.length : Int) < 256 := by omega
    go_enter Tryf.func57, Tryf.ntmps57
    go_wp2_with (first
      | (at_builtin; have _tok := hO3; go_must (refine wpList_append_any _ rfl (.tmp 34) (.tmp 35) 23 23 rfl B 5 i0 (.int .u8 0) 1 1 Tryf.underlying23 hi hz0 hz1 hz2 rfl _ _ _ rfl hO3 _ v.length (bc v) rfl (Src.view _ Tryf.underlying23 ao v cap (HV.out.ext hE3 HNe.out) HNil.out) (by unfold maxLen; simp; omega) (by simp; omega) (Nat.le_trans hB hE3.size) ?_); intro v5 w5 hown5 hext5 _ _)
      | (at_builtin; go_must (refine wpList_append_any _ rfl (.tmp 24) (.tmp 32) 23 23 rfl B 5 i0 (.int .u8 0) 1 1 Tryf.underlying23 hi hz0 hz1 hz2 rfl _ l.length (bc l) rfl (hO.alloc _) _ 3 (bc [by8 fl, by8 cn, by8 v.length]) rfl (Src.lit w Tryf.underlying23 [by8 fl, by8 cn, by8 v.length] _ 3 3 5 (by rw [HB.out]) rfl) (by unfold maxLen; omega) (by omega) (by simp; omega) ?_); intro v3 w3 hown3 hext3 _ _; have hO3 : OB 5 B w3 v3 (l ++ [by8 fl, by8 cn, by8 v.length]) := OB.app hown3 rfl; have hE3 := hext3.of_alloc; clear hown3 hext3))
    go_ret
    refine ⟨_, rfl, ?_, hE3.trans hext5⟩
    have := OB.app hown5 rfl
    simpa [List.append_assoc] using this

end Go.Proofs.Qxb6003713aFmt
