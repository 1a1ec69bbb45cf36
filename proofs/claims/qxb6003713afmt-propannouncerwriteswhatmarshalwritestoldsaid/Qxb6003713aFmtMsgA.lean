import Derived.Test.Qxb6003713aFmtRows
import Derived.Test.Qxb6003713aFmtKitM
namespace Go.Proofs.Qxb6003713aFmt
open Go.RowKit

theorem Tryf.info5 : (Tryf.prog.info? 5).map (fun i => (i.zero, i.size, i.bytes)) = some (some (.int .u8 0), 1, 1) := by kernel_rfl

/-- A number as a byte. -/
def by8 (x : Int) : UInt8 := x.toNat.toUInt8
theorem by8_nat (x : Int) (h0 : 0 ≤ x) (h1 : x < 256) : ((by8 x).toNat : Int) = x := by
  unfold by8
  rw [show x.toNat.toUInt8.toNat = x.toNat % 256 from rfl]
  omega
/-- Two bytes, the greater first. -/
def be16 (x : Int) : List UInt8 := [by8 (x / 256), by8 (x % 256)]

set_option maxHeartbeats 400000 in
theorem app16_any (x : Int) (B : Nat) (v : Value) (l : List UInt8) (w : World) (hx0 : 0 ≤ x) (hx : x < 65536) (hO : OB 5 B w v l) (hB : B ≤ w.heap.size) (hlen : l.length ≤ 1000000000) :
    Calls Tryf.prog 46 #[.agg #[], v, .int .u16 x] w fun e w' => ∃ v', e = .returned v' ∧ OB 5 B w' v' (l ++ be16 x) ∧ Ext w w' v v' ∧ OB 5 B w' v l := by
  obtain ⟨i0, hi, hz0, hz1, hz2⟩ := info_parts Tryf.info5
  have HB : Hid (bc (be16 x) = [Value.int .u8 (x / 256), Value.int .u8 (x % 256)]) := by
    show [Value.int .u8 _, Value.int .u8 _] = _
    rw [by8_nat _ (by omega) (by omega), by8_nat _ (by omega) (by omega)]
  go_enter Tryf.func46, Tryf.ntmps46
  go_wp2_with (at_builtin; go_must (refine wpList_append_any _ rfl (.tmp 7) (.tmp 13) 23 23 rfl B 5 i0 (.int .u8 0) 1 1 Tryf.underlying23 hi hz0 hz1 hz2 rfl _ l.length (bc l) rfl ((hO.alloc _).alloc _) _ 2 (bc (be16 x)) rfl (Src.litH _ Tryf.underlying23 (be16 x) _ 2 2 5 (w.heap.size + 1) (by simp) (by rw [HB.out]) rfl) (by unfold maxLen; omega) (by omega) (by simp; omega) ?_); intro v3 w3 hown3 hext3 _ hst3)
  go_ret
  exact ⟨_, rfl, OB.app hown3 rfl, hext3.of_alloc.of_alloc, hst3⟩

/-- The marker. -/
def mark (k : Nat) : List UInt8 := List.replicate k 255
/-- A message. -/
def msg (t : Int) (l : List UInt8) : List UInt8 := mark 16 ++ be16 (19 + l.length) ++ [by8 t] ++ l

theorem mark_step {xs : List UInt8} {k : Nat} (hk : k < 16) (hl : xs.length = 16) (h : xs.take k = mark k) : (xs.set k 255).take (k + 1) = mark (k + 1) := by
  have e1 : (xs.set k 255).take k = xs.take k := List.take_set_of_le (Nat.le_refl _)
  have e2 : (xs.set k 255)[k]'(by simp; omega) = 255 := by simp
  rw [List.take_succ_eq_append_getElem (by simp; omega), e1, e2, h]
  unfold mark
  rw [List.replicate_succ']

set_option maxHeartbeats 1000000 in
theorem message_any (t : Int) (ao : Option Addr) (cap : Nat) (l : List UInt8) (w : World) (ht0 : 0 ≤ t) (ht : t < 256) (hlen : l.length ≤ 60000) (hV : View w ao (bc l)) (hnil : ao = none → l = []) :
    Calls Tryf.prog 26 #[.int .u8 t, .slice ao l.length cap] w fun e w' => ∃ v', e = .returned v' ∧ OB 5 w.heap.size w' v' (msg t l) ∧ Below w.heap.size w w' := by
  obtain ⟨i0, hi, hz0, hz1, hz2⟩ := info_parts Tryf.info5
  have HV : Hid (View w ao (bc l)) := hV
  have HNil : Hid (ao = none → l = []) := hnil
  clear hV hnil
  go_enter Tryf.func26, Tryf.ntmps26
  go_wp2_with (at_make; go_must (refine wpList_make_row _ rfl _ _ 23 rfl w.heap.size 5 i0 (.int .u8 0) Tryf.underlying23 hi hz0 hz1 rfl _ _ _ _ 16 (19 + l.length) rfl rfl rfl (by omega) (by omega) (by rw [hz2]; omega) (by unfold maxLen; omega) (Nat.le_refl _) ?_); intro w1 hown1 hgrow1 hsz1)
  have hO1 : OB 5 w.heap.size w1 (.slice (some ⟨w.heap.size, 0, none⟩) 16 (19 + l.length)) (List.replicate 16 0) := by
    unfold OB; simpa [bc] using hown1
  have hb1 : Below w.heap.size w w1 := (Below.refl _ _).grown hgrow1 (Nat.le_refl _) (fun k h => by cases h)
  clear hown1 hgrow1 hsz1
  go_loopw [13] (fun i wr => ∃ (k : Nat) (xs : List UInt8), k ≤ 16 ∧ i = .int .i64 k ∧ OB 5 w.heap.size wr (.slice (some ⟨w.heap.size, 0, none⟩) 16 (19 + l.length)) xs ∧ xs.length = 16 ∧ Hid (xs.take k = mark k) ∧ Below w.heap.size w wr)
    (fun i _ => 16 - (intOf i).toNat)
  case atStart => exact ⟨0, _, Nat.zero_le _, rfl, hO1, by simp, rfl, hb1⟩
  case round =>
    obtain ⟨k, xs, hk, rfl, hO, hxl, htk, hb⟩ := hrel
    by_cases hlt : k < 16
    · have hc2 := hO.cell k (by omega)
      obtain ⟨u0, hu0⟩ : ∃ u0, wr.cell? ⟨w.heap.size, k, none⟩ = some u0 := ⟨_, hc2⟩
      have hf2 : wr.frozen? ⟨w.heap.size, k, none⟩ = false := by
        have h2 : wr.ownsRow w.heap.size 5 1 (.slice (some ⟨w.heap.size, 0, none⟩) 16 (19 + l.length)) 16 (bc xs) := by have := hO; unfold OB at this; rwa [hxl] at this
        exact h2.frozenAt k
      have hst := hO.stored hxl k 255
      have HX : Hid ((xs.set k 255).take (k + 1) = mark (k + 1)) := mark_step hlt hxl htk.out
      have HS : Hid (OB 5 w.heap.size (wr.setCell ⟨w.heap.size, k, none⟩ (.int .u8 255)) (.slice (some ⟨w.heap.size, 0, none⟩) 16 (19 + l.length)) (xs.set k 255)) := hst.1
      have i1 : (0 : Int) ≤ (k : Int) := by omega
      have i2 : (k : Int) < 16 := by omega
      clear hst htk hc2
      go_wp2
      go_roundw
      case rel => exact ⟨k + 1, _, by omega, by go_num, HS.out, by simpa using hxl, HX, hb.setCell (Nat.le_refl _) _⟩
      case measure => simp [intOf]; omega
    · obtain rfl : k = 16 := by omega
      have hx : xs = mark 16 := by rw [← htk.out, List.take_of_length_le (by omega)]
      subst hx
      have hm16 : (mark 16).length = 16 := hxl
      have hsz := hb.size
      have hL2 : (mark 16 ++ be16 (19 + l.length)).length = 18 := by simp [be16, hm16]
      have HT : Hid (bc [by8 t] = [Value.int .u8 t]) := by
        show [Value.int .u8 _] = _
        rw [by8_nat t ht0 ht]
      go_wp2_with (first
        | (go_at_call 46; go_must (refine (app16_any (19 + (l.length : Int)) w.heap.size _ (mark 16) _ (by omega) (by omega) hO hsz (by omega)).mono ?_); rintro e w2 ⟨v2, rfl, hO2, hE2, hS2⟩; have hsz2 := hE2.size; have hb2 : Below w.heap.size w w2 := hE2.below hb hsz (fun k h => (hO.lt k h).1); have hsz2' := hb2.size; clear hE2 hS2)
        | (at_builtin; have _tok := hown3; go_must (refine wpList_append_any _ rfl (.tmp 31) (.tmp 32) 23 23 rfl w.heap.size 5 i0 (.int .u8 0) 1 1 Tryf.underlying23 hi hz0 hz1 hz2 rfl _ ((mark 16 ++ be16 (19 + l.length)).length + 1) (bc (mark 16 ++ be16 (19 + l.length)) ++ bc [by8 t]) rfl hown3 _ l.length (bc l) rfl (Src.view _ Tryf.underlying23 ao l cap (HV.out.all hb3) HNil.out) (by unfold maxLen; omega) (by omega) (by omega) ?_); intro v4 w4 hown4 hext4 _ _)
        | (at_builtin; go_must (refine wpList_append_any _ rfl (.tmp 27) (.tmp 29) 23 23 rfl w.heap.size 5 i0 (.int .u8 0) 1 1 Tryf.underlying23 hi hz0 hz1 hz2 rfl _ (mark 16 ++ be16 (19 + l.length)).length (bc (mark 16 ++ be16 (19 + l.length))) rfl (hO2.alloc _) _ 1 (bc [by8 t]) rfl (Src.lit w2 Tryf.underlying23 [by8 t] _ 1 1 5 (by rw [HT.out]) rfl) (by unfold maxLen; omega) (by omega) (by simp; omega) ?_); intro v3 w3 hown3 hext3 _ hst3; have hb3 : Below w.heap.size w w3 := hext3.below (hb2.alloc hsz2' _) (by simp; omega) (fun k h => (hO2.lt k h).1); have hsz3 := hb3.size; clear hext3 hst3))
      go_ret
      have hO3 : OB 5 w.heap.size w3 v3 (mark 16 ++ be16 (19 + l.length) ++ [by8 t]) := OB.app hown3 rfl
      refine ⟨_, rfl, ?_, hext4.below hb3 hsz3 (fun k h => (hO3.lt k h).1)⟩
      unfold OB msg
      rw [List.length_append, List.length_append (bs := [by8 t]), bc_append, bc_append (b := [by8 t])]
      exact hown4

end Go.Proofs.Qxb6003713aFmt
