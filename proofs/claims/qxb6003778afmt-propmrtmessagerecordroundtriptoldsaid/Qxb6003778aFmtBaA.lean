import Derived.Test.Qxb6003778aFmtRows
import Derived.Test.Qxb6003778aFmtKitP
import Derived.Test.Qxb6003778aFmtOpen
import Derived.Deep.QuietTactic
import Derived.BigQuiet
import Derived.WalkSpells
namespace Go.Proofs.Qxb6003778aFmt
open Go.RowKit
set_option linter.unusedSimpArgs false
set_option linter.unusedVariables false

theorem Tryf.info5 : (Tryf.prog.info? 5).map (fun i => (i.zero, i.size, i.bytes)) = some (some (.int .u8 0), 1, 1) := by kernel_rfl

/-- A number as a byte. -/
def by8 (x : Int) : UInt8 := x.toNat.toUInt8
theorem by8_nat (x : Int) (h0 : 0 ≤ x) (h1 : x < 256) : ((by8 x).toNat : Int) = x := by
  unfold by8
  rw [show x.toNat.toUInt8.toNat = x.toNat % 256 from rfl]
  omega
/-- Two bytes, the greater first. -/
def be16 (x : Int) : List UInt8 := [by8 (x / 256), by8 (x % 256)]

set_option maxHeartbeats 400000 in
theorem app16_any (x : Int) (B : Nat) (v : Value) (l : List UInt8) (w : World) (hx0 : 0 ≤ x) (hx : x < 65536) (hO : OB 5 B w v l) (hB : B ≤ w.heap.size) (hlen : l.length ≤ 2000000000) :
    Calls Tryf.prog 13 #[.agg #[], v, .int .u16 x] w fun e w' => ∃ v', e = .returned v' ∧ OB 5 B w' v' (l ++ be16 x) ∧ Ext w w' v v' ∧ OB 5 B w' v l := by
  obtain ⟨i0, hi, hz0, hz1, hz2⟩ := info_parts Tryf.info5
  have HB : Hid (bc (be16 x) = [Value.int .u8 (x / 256), Value.int .u8 (x % 256)]) := by
    show [Value.int .u8 _, Value.int .u8 _] = _
    rw [by8_nat _ (by omega) (by omega), by8_nat _ (by omega) (by omega)]
  go_enter Tryf.func13, Tryf.ntmps13
  go_wp2_with (at_builtin; go_must (refine wpList_append_any _ rfl (.tmp 7) (.tmp 13) 24 24 rfl B 5 i0 (.int .u8 0) 1 1 Tryf.underlying24 hi hz0 hz1 hz2 rfl _ l.length (bc l) rfl ((hO.alloc _).alloc _) _ 2 (bc (be16 x)) rfl (Src.litH _ Tryf.underlying24 (be16 x) _ 2 2 5 (w.heap.size + 1) (by simp) (by rw [HB.out]) rfl) (by unfold maxLen; omega) (by omega) (by simp; omega) ?_); intro v3 w3 hown3 hext3 _ hst3)
  go_ret
  exact ⟨_, rfl, OB.app hown3 rfl, hext3.of_alloc.of_alloc, hst3⟩

theorem u16_join (hi lo : Int) (h0 : 0 ≤ hi) (h1 : hi < 256) (l0 : 0 ≤ lo) (l1 : lo < 256) : bits .or .u16 lo (hi * 256) = hi * 256 + lo := by
  obtain ⟨a, rfl⟩ := Int.eq_ofNat_of_zero_le h0
  obtain ⟨b, rfl⟩ := Int.eq_ofNat_of_zero_le l0
  have e : ((a : Int) * 256) = ((a * 256 : Nat) : Int) := by omega
  rw [e, u16_or_nat b (a * 256) (by omega) (by omega), Nat.or_comm, nat_join 8 (a * 256) b (by omega) (by omega)]
  omega

set_option maxHeartbeats 400000 in
theorem uint16_any (b off n cap : Nat) (hi lo : Int) (w : World) (hn : 2 ≤ n) (h0 : 0 ≤ hi) (h1 : hi < 256) (l0 : 0 ≤ lo) (l1 : lo < 256) (hc0 : w.cell? ⟨b, off, none⟩ = some (.int .u8 hi)) (hc1 : w.cell? ⟨b, off + 1, none⟩ = some (.int .u8 lo)) :
    Calls Tryf.prog 28 #[.agg #[], .slice (some ⟨b, off, none⟩) n cap] w fun e w' => e = .returned (.int .u16 (hi * 256 + lo)) ∧ Below w.heap.size w w' := by
  have i1 : (1 : Int) < (n : Int) := by omega
  have i0 : (0 : Int) < (n : Int) := by omega
  have hb1 : b < w.heap.size := World.block_lt_of_cell? w _ hc0
  have d0 : (w.alloc (.cells #[] 54)).cell? ⟨b, off, none⟩ = some (.int .u8 hi) := (World.cell?_of_block (w := w) (Below.heap_alloc w _ b hb1)).trans hc0
  have d1 : (w.alloc (.cells #[] 54)).cell? ⟨b, off + 1, none⟩ = some (.int .u8 lo) := (World.cell?_of_block (w := w) (Below.heap_alloc w _ b hb1)).trans hc1
  have hj := u16_join hi lo h0 h1 l0 l1
  go_enter Tryf.func28, Tryf.ntmps28
  go_wp2_with fail
  go_quiet (fail)
  go_wp2
  go_ret
  exact ⟨rfl, below_drewN ((Below.refl _ _).alloc (Nat.le_refl _) _) _⟩

theorem bc_of {l : List UInt8} {k : Nat} {c : UInt8} (h : l[k]? = some c) : (bc l)[k]? = some (.int .u8 (c.toNat : Int)) := by simp [bc, h]

theorem below_of_drew {B : Nat} {w w' : World} (h : Below B w.drew w') : Below B w w' := ⟨h.os, h.tape, h.output, h.size, h.block⟩

theorem set_step {xs cs : List Value} {k : Nat} (hk : k < cs.length) (hl : xs.length = cs.length) (h : xs.take k = cs.take k) : (xs.set k cs[k]).take (k + 1) = cs.take (k + 1) := by
  have e1 : (xs.set k cs[k]).take k = xs.take k := List.take_set_of_le (Nat.le_refl _)
  have e2 : (xs.set k cs[k])[k]'(by simp; omega) = cs[k] := by simp
  rw [List.take_succ_eq_append_getElem (l := xs.set k cs[k]) (by simp; omega), e1, e2, h, List.take_succ_eq_append_getElem hk]

set_option maxHeartbeats 400000 in
theorem clone_nil (w : World) (n cap : Nat) :
    Calls Tryf.prog 5 #[.slice none n cap] w fun e w' => e = .returned (.slice none 0 0) ∧ w' = w := by
  have hnn := fun (W : World) => Lib.run_eql_slice_nil (P := Tryf.prog) W 24 5 none n cap 0 0 Tryf.underlying24
  go_enter Tryf.func5, Tryf.ntmps5
  go_wp2
  go_ret
  exact ⟨rfl, rfl⟩

set_option maxHeartbeats 400000 in
theorem clone_some (w : World) (a : Addr) (n cap : Nat) (cs : List Value) (hn : cs.length = n) (hV : View w (some a) cs) (hsh : ∀ j (hj : j < cs.length), ∃ z : Int, cs[j] = (.int .u8 z)) (hle : n ≤ 2000000000) :
    Calls Tryf.prog 5 #[.slice (some a) n cap] w fun e w' => e = .returned (.slice (some ⟨w.heap.size, 0, none⟩) n n) ∧ w'.ownsRow w.heap.size 5 1 (.slice (some ⟨w.heap.size, 0, none⟩) n n) n cs ∧ Below w.heap.size w w' := by
  have hnn := fun (W : World) => Lib.run_eql_slice_nil (P := Tryf.prog) W 24 5 (some a) n cap 0 0 Tryf.underlying24
  obtain ⟨i0, hi, hz0, hz1, hz2⟩ := info_parts Tryf.info5
  go_enter Tryf.func5, Tryf.ntmps5
  go_wp2_with (at_make; refine wpList_make_full _ rfl _ _ 24 rfl w.heap.size 5 i0 (.int .u8 0) 1 Tryf.underlying24 hi hz0 hz1 _ _ _ _ n rfl rfl rfl rfl (by rw [hz2]; omega) (by unfold maxLen; omega) (Nat.le_refl _) ?_; intro w1 hown1 hgrow1)
  have hb1 : Below w.heap.size w w1 := (Below.refl _ _).grown hgrow1 (Nat.le_refl _) (fun k h => by cases h)
  clear hgrow1
  go_loopw [4] (fun i wr => ∃ (k : Nat) (xs : List Value), k ≤ n ∧ i = .int .i64 k ∧ wr.ownsRow w.heap.size 5 1 (.slice (some ⟨w.heap.size, 0, none⟩) n n) n xs ∧ Hid (xs.take k = cs.take k) ∧ Below w.heap.size w wr)
    (fun i _ => n - (intOf i).toNat)
  case atStart => exact ⟨0, _, Nat.zero_le _, rfl, hown1, by simp [Hid], hb1⟩
  case round =>
    obtain ⟨k, xs, hk, rfl, hown, htk, hb⟩ := hrel
    by_cases hlt : k < n
    · obtain ⟨b, off, hab, hblt, hcell⟩ := hV.at (j := k) (by omega)
      cases hab
      obtain ⟨z, hz⟩ := hsh k (by omega)
      have hc1 : wr.cell? ⟨b, off + k, none⟩ = some (.int .u8 z) := (hb.cell (p := ⟨b, off + k, none⟩) hblt).trans (hcell k _ (by rw [List.getElem?_eq_getElem (by omega), hz]))
      have hxl : xs.length = n := by simpa using hown.1
      obtain ⟨u0, hc2⟩ : ∃ u0, wr.cell? ⟨w.heap.size, k, none⟩ = some u0 := ⟨_, (hown.cellAt k (by omega)).trans (List.getElem?_eq_getElem (by omega))⟩
      have hf2 := hown.frozenAt k
      have hst := hown.stored k (.int .u8 z)
      have HX : Hid ((xs.set k (.int .u8 z)).take (k + 1) = cs.take (k + 1)) := by
        have := set_step (xs := xs) (cs := cs) (k := k) (by omega) (by omega) htk.out
        rw [hz] at this; exact this
      have HS : Hid ((wr.setCell ⟨w.heap.size, k, none⟩ (.int .u8 z)).ownsRow w.heap.size 5 1 (.slice (some ⟨w.heap.size, 0, none⟩) n n) n (xs.set k (.int .u8 z))) := hst.1
      clear hst htk hcell hz
      go_wp2
      go_roundw
      case rel => exact ⟨k + 1, _, by omega, by go_num, HS.out, HX, hb.setCell (Nat.le_refl _) _⟩
      case measure => simp [intOf]; omega
    · obtain rfl : k = n := by omega
      go_wp2
      go_ret
      have hx : xs = cs := by
        have h1 : xs.length = k := by simpa using hown.1
        have := htk.out
        rw [List.take_of_length_le (by omega), List.take_of_length_le (by omega)] at this
        exact this
      subst hx
      exact ⟨rfl, hown, hb⟩


/-- How a clone of bytes ends. -/
def Cloned (l : List UInt8) (w : World) (e : Ending) (w' : World) : Prop :=
  ∃ ao, e = .returned (.slice ao l.length l.length) ∧ View w' ao (bc l) ∧ (ao = none → l.length = 0) ∧ (∀ k o, ao = some ⟨k, o, none⟩ → w.heap.size ≤ k ∧ k < w'.heap.size) ∧ Below w.heap.size w w'

theorem clone_bytes (ao : Option Addr) (cap : Nat) (l : List UInt8) (w : World) (hV : View w ao (bc l)) (hnil : ao = none → l = []) (hle : l.length ≤ 2000000000) : Calls Tryf.prog 5 #[.slice ao l.length cap] w (Cloned l w) := by
  cases ao with
  | none =>
    obtain rfl := hnil rfl
    refine (clone_nil w 0 cap).mono ?_
    rintro e w' ⟨rfl, rfl⟩
    exact ⟨none, rfl, View.nil _ _, fun _ => rfl, (fun k o h => by cases h), Below.refl _ _⟩
  | some a =>
    refine (clone_some w a l.length cap (bc l) (bc_length l) hV (fun j hj => ⟨((l[j]'(by simpa [bc] using hj)).toNat : Int), by simp [bc]⟩) hle).mono ?_
    rintro e w' ⟨rfl, hown, hb⟩
    obtain ⟨ao', cap', hv, hV', _, _, _, _, ha⟩ := View.own hown
    cases hv
    exact ⟨some ⟨w.heap.size, 0, none⟩, rfl, hV', (fun h => by cases h), (fun k o h => (ha _ h).2.2), hb⟩

end Go.Proofs.Qxb6003778aFmt
