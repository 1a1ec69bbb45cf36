import Derived.Test.Qxb6003778aFmtStF
import Derived.Laws.IdiomStrings
namespace Go.Proofs.Qxb6003778aFmt
open Go.RowKit
set_option linter.unusedVariables false
set_option linter.unusedSimpArgs false

theorem conv_any {B : Nat} {w : World} {v : Value} {l : List UInt8} (h : OB 5 B w v l) : (convert 24 9 v).run Tryf.prog w = .ok (.string ⟨l.toArray⟩) w := by
  rcases h.form with ⟨rfl, rfl⟩ | ⟨g, cap, rfl, _⟩
  · kernel_rfl
  · exact run_convert_bytes_back (P := Tryf.prog) w 24 9 5 ⟨g, 0, none⟩ cap l Tryf.underlying24 Tryf.underlying5 Tryf.underlying9 (fun j hj => by
      rw [Addr.add_lit]; simpa using h.cell j hj)

/-- String: some text. -/
def Texted (w : World) (e : Ending) (w' : World) : Prop := ∃ s : ByteArray, e = .returned (.string s) ∧ Below w.heap.size w w'

theorem str_none (hi lo : Nat) (p4 p6 : Addr) (w : World) (hz : Zs w p4 p6) : Calls Tryf.prog 22 #[AV hi lo none] w (Texted w) := by
  have HZ : Hid (∀ W, Below w.heap.size w W → Zs W p4 p6) := fun W hb => hz.later hb
  clear hz
  unfold AV
  go_enter Tryf.func22, Tryf.ntmps22
  go_wp2_with (first
    | (go_at_call 30; go_must (refine (val_none hi lo p4 p6 _ (by exact HZ.out _ ((Below.refl _ _).alloc (Nat.le_refl _) _))).mono ?_); rintro e w1 ⟨rfl, hb⟩; have hb1 : Below w.heap.size w w1 := (boxed1 hb).2.below (Nat.le_refl _) (fun i q => by have : i = w.heap.size := q; omega); clear hb)
    | fail)
  go_ret
  exact ⟨_, rfl, hb1⟩

set_option maxRecDepth 100000 in
set_option maxHeartbeats 2000000 in
theorem str_four (hi lo : Nat) (p4 p6 : Addr) (w : World) (hz : Zs w p4 p6) : Calls Tryf.prog 22 #[AV hi lo (some p4)] w (Texted w) := by
  obtain ⟨i0, hi', hz0, hz1, hz2⟩ := info_parts Tryf.info5
  have HZ : Hid (∀ W, Below w.heap.size w W → Zs W p4 p6) := fun W hb => hz.later hb
  have z3 := eqz_same
  clear hz
  unfold AV
  go_enter Tryf.func22, Tryf.ntmps22
  go_wp2_with (first
    | (go_at_call 30; go_must (refine (val_some hi lo p4 p4 p6 _ (by exact HZ.out _ ((Below.refl _ _).alloc (Nat.le_refl _) _))).mono ?_); rintro e w1 ⟨rfl, hb⟩; obtain ⟨hB1, hK1⟩ := boxed1 hb; have k0 : w1.cell? ⟨w.heap.size, 0, none⟩ = some (.int .u64 hi) := hB1.cell 0; have k1 : w1.cell? ⟨w.heap.size, 1, none⟩ = some (.int .u64 lo) := hB1.cell 1; have k2 : w1.cell? ⟨w.heap.size, 2, none⟩ = some (.pointer (some p4)) := hB1.cell 2; have HBx := Hid.mk'' hB1; have hb1' : Below w.heap.size w w1 := hK1.below (Nat.le_refl _) (fun i q => by have : i = w.heap.size := q; omega); have g4 : w1.cell? ⟨1, 0, none⟩ = some (.pointer (some p4)) := (HZ.out _ hb1').c4; have Hb1 := Hid.mk'' hb1'; have hs1 := HBx.out.lt; clear hb hB1 hK1 hb1')
    | (at_make; go_must (refine wpList_make_row _ rfl _ _ 24 rfl w1.heap.size 5 i0 (.int .u8 0) Tryf.underlying24 hi' hz0 hz1 rfl _ _ _ _ 0 15 rfl rfl rfl (by omega) (by omega) (by rw [hz2]; omega) (by unfold maxLen; omega) (Nat.le_refl _) ?_); intro w2 hown2 hgrow2 hsz2; have hO2 : Hid (OB 5 w1.heap.size w2 (.slice (some ⟨w1.heap.size, 0, none⟩) 0 15) []) := (by unfold Hid OB; simpa [bc] using hown2); have hb2 : Below w1.heap.size w1 w2 := (Below.refl _ _).grown hgrow2 (Nat.le_refl _) (fun k h => by cases h); have HB2 := Hid.mk'' hb2; have hbk : Blk w2 w.heap.size 32 #[.int .u64 hi, .int .u64 lo, .pointer (some p4)] := (hb2.block _ hs1).trans HBx.out; have j0 : w2.cell? ⟨w.heap.size, 0, none⟩ = some (.int .u64 hi) := hbk.cell 0; have j1 : w2.cell? ⟨w.heap.size, 1, none⟩ = some (.int .u64 lo) := hbk.cell 1; have j2 : w2.cell? ⟨w.heap.size, 2, none⟩ = some (.pointer (some p4)) := hbk.cell 2; clear hown2 hgrow2 hsz2 hb2 hbk)
    | (go_at_call 31; go_must (refine (to4_any hi lo (some p4) w1.heap.size _ [] _ hO2.out HB2.out.size (by simp)).mono ?_); rintro e w3 ⟨v3, m3, rfl, hO3, -, hx3⟩; have hcv := conv_any hO3; have HB3 := Hid.mk'' (hx3.below HB2.out HB2.out.size (fun k q => (hO2.out.lt k q).1)); clear hO3 hx3)
    | fail)
  go_ret
  exact ⟨_, rfl, Hb1.out.trans (HB3.out.mono Hb1.out.size)⟩

set_option maxRecDepth 100000 in
set_option maxHeartbeats 2000000 in
theorem str_sixm (hi lo : Nat) (p4 p6 : Addr) (w : World) (hz : Zs w p4 p6) (h0 : hi = 0) (h1 : lo / 4294967296 = 65535) : Calls Tryf.prog 22 #[AV hi lo (some p6)] w (Texted w) := by
  obtain ⟨i0, hi', hz0, hz1, hz2⟩ := info_parts Tryf.info5
  have HZ : Hid (∀ W, Below w.heap.size w W → Zs W p4 p6) := fun W hb => hz.later hb
  have z3 := eqz_same
  have hdec : (decide (hi = 0) && decide (lo / 4294967296 = 65535)) = true := by rw [decide_eq_true h0, decide_eq_true h1]; rfl
  have HIN : Hid (∀ W, Below w.heap.size w W → Calls Tryf.prog 32 #[AV hi lo (some p6)] W fun e w' => e = .returned (.bool true) ∧ Below W.heap.size W w') := fun W hb => by rw [← hdec]; exact in6_any hi lo p4 p6 W (hz.later hb)
  have HIM : Hid (∀ B (u : Value) W, Below w.heap.size w W → w.heap.size ≤ B → OB 5 B W u [] → B ≤ W.heap.size → Calls Tryf.prog 33 #[AV hi lo (some p6), u] W fun e w' => ∃ v' m, e = .returned v' ∧ OB 5 B w' v' ([] ++ m) ∧ m.length ≤ 30 ∧ Ext W w' u v') := fun B u W hb hB hO hB2 => in46_any hi lo p4 p6 B u [] W w hz hb hB h0 h1 hO hB2 (by simp)
  clear hz hdec h0 h1
  unfold AV at HIN HIM ⊢
  go_enter Tryf.func22, Tryf.ntmps22
  go_wp2_with (first
    | (go_at_call 30; go_must (refine (val_some hi lo p6 p4 p6 _ (by exact HZ.out _ ((Below.refl _ _).alloc (Nat.le_refl _) _))).mono ?_); rintro e w1 ⟨rfl, hb⟩; obtain ⟨hB1, hK1⟩ := boxed1 hb; have k0 : w1.cell? ⟨w.heap.size, 0, none⟩ = some (.int .u64 hi) := hB1.cell 0; have k1 : w1.cell? ⟨w.heap.size, 1, none⟩ = some (.int .u64 lo) := hB1.cell 1; have k2 : w1.cell? ⟨w.heap.size, 2, none⟩ = some (.pointer (some p6)) := hB1.cell 2; have HBx := Hid.mk'' hB1; have hb1' : Below w.heap.size w w1 := hK1.below (Nat.le_refl _) (fun i q => by have : i = w.heap.size := q; omega); have g4 : w1.cell? ⟨1, 0, none⟩ = some (.pointer (some p4)) := (HZ.out _ hb1').c4; have zo := (HZ.out _ hb1').other; have Hb1 := Hid.mk'' hb1'; have hs1 := HBx.out.lt; clear hb hB1 hK1 hb1')
    | (go_at_call 32; go_must (refine (HIN.out _ Hb1.out).mono ?_); rintro e wx ⟨rfl, hbx⟩; have HBx2 : Hid (Blk wx w.heap.size 32 #[.int .u64 hi, .int .u64 lo, .pointer (some p6)]) := (hbx.block _ hs1).trans HBx.out; have Hbx := Hid.mk'' (Hb1.out.trans (hbx.mono Hb1.out.size)); have hsx := HBx2.out.lt; clear hbx)
    | (at_make; go_must (refine wpList_make_row _ rfl _ _ 24 rfl wx.heap.size 5 i0 (.int .u8 0) Tryf.underlying24 hi' hz0 hz1 rfl _ _ _ _ 0 29 rfl rfl rfl (by omega) (by omega) (by rw [hz2]; omega) (by unfold maxLen; omega) (Nat.le_refl _) ?_); intro w2 hown2 hgrow2 hsz2; have hO2 : Hid (OB 5 wx.heap.size w2 (.slice (some ⟨wx.heap.size, 0, none⟩) 0 29) []) := (by unfold Hid OB; simpa [bc] using hown2); have hb2 : Below wx.heap.size wx w2 := (Below.refl _ _).grown hgrow2 (Nat.le_refl _) (fun k h => by cases h); have HB2 := Hid.mk'' hb2; have hbk : Blk w2 w.heap.size 32 #[.int .u64 hi, .int .u64 lo, .pointer (some p6)] := (hb2.block _ hsx).trans HBx2.out; have j0 : w2.cell? ⟨w.heap.size, 0, none⟩ = some (.int .u64 hi) := hbk.cell 0; have j1 : w2.cell? ⟨w.heap.size, 1, none⟩ = some (.int .u64 lo) := hbk.cell 1; have j2 : w2.cell? ⟨w.heap.size, 2, none⟩ = some (.pointer (some p6)) := hbk.cell 2; clear hown2 hgrow2 hsz2 hb2 hbk)
    | (go_at_call 33; go_must (refine (HIM.out wx.heap.size _ _ (by exact Hbx.out.trans (HB2.out.mono Hbx.out.size)) Hbx.out.size hO2.out HB2.out.size).mono ?_); rintro e w3 ⟨v3, m3, rfl, hO3, -, hx3⟩; have hcv := conv_any hO3; have HB3 := Hid.mk'' (hx3.below HB2.out HB2.out.size (fun k q => (hO2.out.lt k q).1)); clear hO3 hx3)
    | fail)
  go_ret
  exact ⟨_, rfl, Hbx.out.trans (HB3.out.mono Hbx.out.size)⟩

set_option maxRecDepth 100000 in
set_option maxHeartbeats 2000000 in
theorem str_sixn (hi lo : Nat) (p4 p6 : Addr) (w : World) (hz : Zs w p4 p6) (hn : ¬ (hi = 0 ∧ lo / 4294967296 = 65535)) : Calls Tryf.prog 22 #[AV hi lo (some p6)] w (Texted w) := by
  obtain ⟨i0, hi', hz0, hz1, hz2⟩ := info_parts Tryf.info5
  have HZ : Hid (∀ W, Below w.heap.size w W → Zs W p4 p6) := fun W hb => hz.later hb
  have z3 := eqz_same
  have hdec : (decide (hi = 0) && decide (lo / 4294967296 = 65535)) = false := by simpa using hn
  have HIN : Hid (∀ W, Below w.heap.size w W → Calls Tryf.prog 32 #[AV hi lo (some p6)] W fun e w' => e = .returned (.bool false) ∧ Below W.heap.size W w') := fun W hb => by rw [← hdec]; exact in6_any hi lo p4 p6 W (hz.later hb)
  have HIM : Hid (∀ B (u : Value) W, Below w.heap.size w W → w.heap.size ≤ B → OB 5 B W u [] → B ≤ W.heap.size → Calls Tryf.prog 34 #[AV hi lo (some p6), u] W fun e w' => ∃ v' m, e = .returned v' ∧ OB 5 B w' v' ([] ++ m) ∧ m.length ≤ 64 ∧ Ext W w' u v') := fun B u W hb hB hO hB2 => to6_any hi lo p4 p6 B u [] W w hz hb hB hO hB2 (by simp)
  clear hz hdec hn
  unfold AV at HIN HIM ⊢
  go_enter Tryf.func22, Tryf.ntmps22
  go_wp2_with (first
    | (go_at_call 30; go_must (refine (val_some hi lo p6 p4 p6 _ (by exact HZ.out _ ((Below.refl _ _).alloc (Nat.le_refl _) _))).mono ?_); rintro e w1 ⟨rfl, hb⟩; obtain ⟨hB1, hK1⟩ := boxed1 hb; have k0 : w1.cell? ⟨w.heap.size, 0, none⟩ = some (.int .u64 hi) := hB1.cell 0; have k1 : w1.cell? ⟨w.heap.size, 1, none⟩ = some (.int .u64 lo) := hB1.cell 1; have k2 : w1.cell? ⟨w.heap.size, 2, none⟩ = some (.pointer (some p6)) := hB1.cell 2; have HBx := Hid.mk'' hB1; have hb1' : Below w.heap.size w w1 := hK1.below (Nat.le_refl _) (fun i q => by have : i = w.heap.size := q; omega); have g4 : w1.cell? ⟨1, 0, none⟩ = some (.pointer (some p4)) := (HZ.out _ hb1').c4; have zo := (HZ.out _ hb1').other; have Hb1 := Hid.mk'' hb1'; have hs1 := HBx.out.lt; clear hb hB1 hK1 hb1')
    | (go_at_call 32; go_must (refine (HIN.out _ Hb1.out).mono ?_); rintro e wx ⟨rfl, hbx⟩; have HBx2 : Hid (Blk wx w.heap.size 32 #[.int .u64 hi, .int .u64 lo, .pointer (some p6)]) := (hbx.block _ hs1).trans HBx.out; have Hbx := Hid.mk'' (Hb1.out.trans (hbx.mono Hb1.out.size)); have hsx := HBx2.out.lt; clear hbx)
    | (at_make; go_must (refine wpList_make_row _ rfl _ _ 24 rfl wx.heap.size 5 i0 (.int .u8 0) Tryf.underlying24 hi' hz0 hz1 rfl _ _ _ _ 0 46 rfl rfl rfl (by omega) (by omega) (by rw [hz2]; omega) (by unfold maxLen; omega) (Nat.le_refl _) ?_); intro w2 hown2 hgrow2 hsz2; have hO2 : Hid (OB 5 wx.heap.size w2 (.slice (some ⟨wx.heap.size, 0, none⟩) 0 46) []) := (by unfold Hid OB; simpa [bc] using hown2); have hb2 : Below wx.heap.size wx w2 := (Below.refl _ _).grown hgrow2 (Nat.le_refl _) (fun k h => by cases h); have HB2 := Hid.mk'' hb2; have hbk : Blk w2 w.heap.size 32 #[.int .u64 hi, .int .u64 lo, .pointer (some p6)] := (hb2.block _ hsx).trans HBx2.out; have j0 : w2.cell? ⟨w.heap.size, 0, none⟩ = some (.int .u64 hi) := hbk.cell 0; have j1 : w2.cell? ⟨w.heap.size, 1, none⟩ = some (.int .u64 lo) := hbk.cell 1; have j2 : w2.cell? ⟨w.heap.size, 2, none⟩ = some (.pointer (some p6)) := hbk.cell 2; clear hown2 hgrow2 hsz2 hb2 hbk)
    | (go_at_call 34; go_must (refine (HIM.out wx.heap.size _ _ (by exact Hbx.out.trans (HB2.out.mono Hbx.out.size)) Hbx.out.size hO2.out HB2.out.size).mono ?_); rintro e w3 ⟨v3, m3, rfl, hO3, -, hx3⟩; have hcv := conv_any hO3; have HB3 := Hid.mk'' (hx3.below HB2.out HB2.out.size (fun k q => (hO2.out.lt k q).1)); clear hO3 hx3)
    | fail)
  go_ret
  exact ⟨_, rfl, Hbx.out.trans (HB3.out.mono Hbx.out.size)⟩

theorem str_six (hi lo : Nat) (p4 p6 : Addr) (w : World) (hz : Zs w p4 p6) : Calls Tryf.prog 22 #[AV hi lo (some p6)] w (Texted w) := by
  by_cases h : hi = 0 ∧ lo / 4294967296 = 65535
  · exact str_sixm hi lo p4 p6 w hz h.1 h.2
  · exact str_sixn hi lo p4 p6 w hz h
theorem str_any (p4 p6 : Addr) (n : Nat) (o : Nat → UInt8) (w : World) (hz : Zs w p4 p6) : Calls Tryf.prog 22 #[addrOf p4 p6 n o] w (Texted w) := by
  unfold addrOf
  by_cases h4 : n = 4
  · rw [if_pos h4]; exact str_four _ _ p4 p6 w hz
  · rw [if_neg h4]
    by_cases h6 : n = 6
    · rw [if_pos h6]; exact str_six _ _ p4 p6 w hz
    · rw [if_neg h6]; exact str_none _ _ p4 p6 w hz

end Go.Proofs.Qxb6003778aFmt
