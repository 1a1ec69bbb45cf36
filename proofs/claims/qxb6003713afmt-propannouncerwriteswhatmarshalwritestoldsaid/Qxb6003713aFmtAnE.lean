import Derived.Test.Qxb6003713aFmtAnD
namespace Go.Proofs.Qxb6003713aFmt
open Go.RowKit
set_option linter.unusedSimpArgs false
set_option linter.unusedVariables false

theorem valid_some (hi lo : Nat) (p : Addr) (p4 p6 : Addr) (w : World) (hz : Zs w p4 p6) : Calls Tryf.prog 37 #[AV hi lo (some p)] w fun e w' => e = .returned (.bool true) ∧ Below w.heap.size w w' := by
  have hc := hz.c0
  have h4 : 4 < w.heap.size := World.block_lt_of_cell? w _ hc
  have z1 := eqz_none
  unfold AV
  go_enter Tryf.func37, Tryf.ntmps37
  go_wp2
  go_ret
  exact ⟨rfl, (Below.refl _ _).alloc (Nat.le_refl _) _⟩

theorem bits_none (hi lo : Nat) (p4 p6 : Addr) (w : World) (hz : Zs w p4 p6) : Calls Tryf.prog 63 #[AV hi lo none] w fun e w' => e = .returned (.int .i64 0) ∧ Below w.heap.size w w' := by
  have hc := hz.c0
  have h4 : 4 < w.heap.size := World.block_lt_of_cell? w _ hc
  have z1 := eqz_none
  have z2 := eqz_nil
  unfold AV
  go_enter Tryf.func63, Tryf.ntmps63
  go_wp2
  go_ret
  exact ⟨rfl, (Below.refl _ _).alloc (Nat.le_refl _) _⟩
theorem bits_four (hi lo : Nat) (p4 p6 : Addr) (w : World) (hz : Zs w p4 p6) : Calls Tryf.prog 63 #[AV hi lo (some p4)] w fun e w' => e = .returned (.int .i64 32) ∧ Below w.heap.size w w' := by
  have hc := hz.c0
  have hc4 := hz.c4
  have h4 : 4 < w.heap.size := World.block_lt_of_cell? w _ hc
  have h2 : 2 < w.heap.size := World.block_lt_of_cell? w _ hc4
  have z1 := eqz_none
  have z3 := eqz_same
  unfold AV
  go_enter Tryf.func63, Tryf.ntmps63
  go_wp2
  go_ret
  exact ⟨rfl, (Below.refl _ _).alloc (Nat.le_refl _) _⟩
theorem bits_six (hi lo : Nat) (p4 p6 : Addr) (w : World) (hz : Zs w p4 p6) : Calls Tryf.prog 63 #[AV hi lo (some p6)] w fun e w' => e = .returned (.int .i64 128) ∧ Below w.heap.size w w' := by
  have hc := hz.c0
  have hc4 := hz.c4
  have h4 : 4 < w.heap.size := World.block_lt_of_cell? w _ hc
  have h2 : 2 < w.heap.size := World.block_lt_of_cell? w _ hc4
  have z1 := eqz_none
  have z4 : ∀ o, (Op.equalIn 9999 58 (.pointer (some p6)) (.pointer (some p4))).run Tryf.prog (w.alloc o) = .ok false (w.alloc o) := fun o => (hz.later ((Below.refl _ _).alloc (Nat.le_refl _) o)).other
  unfold AV
  go_enter Tryf.func63, Tryf.ntmps63
  go_wp2
  go_ret
  exact ⟨rfl, (Below.refl _ _).alloc (Nat.le_refl _) _⟩

/-- The address of n octets (4, 16, or none). -/
def addrOf (p4 p6 : Addr) (n : Nat) (o : Nat → UInt8) : Value := if n = 4 then AV 0 (lo4 o) (some p4) else if n = 16 then AV (be8 o) (be8 fun i => o (8 + i)) (some p6) else AV 0 0 none
/-- .. its octets. -/
def octOf (n : Nat) (o : Nat → UInt8) : List UInt8 := if n = 4 then b4 (lo4 o % 4294967296) else if n = 16 then b8 (be8 o) ++ b8 (be8 fun i => o (8 + i)) else []
theorem octOf_len (n : Nat) (o : Nat → UInt8) (h : n = 0 ∨ n = 4 ∨ n = 16) : (octOf n o).length = n := by
  unfold octOf
  rcases h with rfl | rfl | rfl <;> rfl

/-- AsSlice, BitLen of such an address. -/
theorem as_any (p4 p6 : Addr) (n : Nat) (o : Nat → UInt8) (w : World) (hz : Zs w p4 p6) : Calls Tryf.prog 51 #[addrOf p4 p6 n o] w (Octets (octOf n o) w) := by
  unfold addrOf octOf
  by_cases h4 : n = 4
  · rw [if_pos h4, if_pos h4]; exact as_four _ _ p4 p6 w hz
  · rw [if_neg h4, if_neg h4]
    by_cases h6 : n = 16
    · rw [if_pos h6, if_pos h6]; exact as_six _ _ p4 p6 w hz (be8_lt _) (be8_lt _)
    · rw [if_neg h6, if_neg h6]; exact as_none _ _ p4 p6 w hz
theorem bits_any (p4 p6 : Addr) (n : Nat) (o : Nat → UInt8) (w : World) (hz : Zs w p4 p6) (h : n = 0 ∨ n = 4 ∨ n = 16) : Calls Tryf.prog 63 #[addrOf p4 p6 n o] w fun e w' => e = .returned (.int .i64 (8 * n : Nat)) ∧ Below w.heap.size w w' := by
  rcases h with rfl | rfl | rfl
  · exact bits_none _ _ p4 p6 w hz
  · exact bits_four _ _ p4 p6 w hz
  · exact bits_six _ _ p4 p6 w hz

theorem oct16 (o : Nat → UInt8) : Oct (ar16 o) 16 o := by
  refine ⟨rfl, fun i hi => ?_⟩
  match i, hi with
  | 0, _ => rfl
  | 1, _ => rfl
  | 2, _ => rfl
  | 3, _ => rfl
  | 4, _ => rfl
  | 5, _ => rfl
  | 6, _ => rfl
  | 7, _ => rfl
  | 8, _ => rfl
  | 9, _ => rfl
  | 10, _ => rfl
  | 11, _ => rfl
  | 12, _ => rfl
  | 13, _ => rfl
  | 14, _ => rfl
  | 15, _ => rfl
  | k + 16, hk => omega
theorem Oct.eq {xs : Array Value} {n : Nat} {o : Nat → UInt8} (h : Oct xs n o) {ys : Array Value} (k : Oct ys n o) : xs = ys := by
  apply Array.ext_getElem?
  intro i
  by_cases hi : i < n
  · rw [h.2 i hi, k.2 i hi]
  · rw [Array.getElem?_eq_none (by have := h.1; omega), Array.getElem?_eq_none (by have := k.1; omega)]

/-- Behind a box and a variable of the call's own. -/
theorem boxed {w w1 : World} {a : Obj} {T : TypeId} {xs : Array Value} (h : Below ((w.alloc a).alloc (.cells xs T)).heap.size ((w.alloc a).alloc (.cells xs T)) w1) : Blk w1 (w.heap.size + 1) T xs ∧ Kept w w1 (fun i => i = w.heap.size + 1) := by
  refine ⟨?_, (((Kept.refl _ _).alloc _).alloc _).trans ((Kept.ofAll h _))⟩
  have := Blk.new (w.alloc a) T xs
  have e : (w.alloc a).heap.size = w.heap.size + 1 := by simp
  rw [e] at this
  exact (h.block _ (by simp)).trans this

set_option maxRecDepth 100000 in
set_option maxHeartbeats 1000000 in
theorem zaddr_any (p4 p6 : Addr) (n : Nat) (xs : Array Value) (o : Nat → UInt8) (w : World) (hz : Zs w p4 p6) (hx : Oct xs 16 o) :
    Calls Tryf.prog 15 #[.int .u8 n, .agg xs] w fun e w' => e = .returned (addrOf p4 p6 n o) ∧ Below w.heap.size w w' := by
  have HZ : Hid (∀ w', Below w.heap.size w w' → Zs w' p4 p6) := fun w' hb => hz.later hb
  obtain rfl := hx.eq (oct16 o)
  unfold addrOf
  by_cases h4 : n = 4
  · subst h4
    rw [if_pos rfl]
    clear hz hx
    go_enter Tryf.func15, Tryf.ntmps15
    go_wp2_with (first
      | (go_at_call 35; go_must (refine (from4_any o p4 p6 _ (by exact HZ.out _ (((Below.refl _ _).alloc (Nat.le_refl _) _).alloc (by simp) _))).mono ?_); rintro e w1 ⟨rfl, hb1'⟩; unfold AV; obtain ⟨hB, hK⟩ := boxed hb1'; have d0 : w1.cell? ⟨w.heap.size + 1, 0, none⟩ = some (.int .u64 0) := hB.cell 0; have d1 : w1.cell? ⟨w.heap.size + 1, 1, none⟩ = some (.int .u64 0) := hB.cell 1; have d2 : w1.cell? ⟨w.heap.size + 1, 2, none⟩ = some (.pointer none) := hB.cell 2; have f := hB.frozen; have HK1 : Hid (Kept w w1 (fun i => i = w.heap.size + 1)) := hK; have HB1 : Hid (Blk w1 (w.heap.size + 1) 62 #[.int .u64 0, .int .u64 0, .pointer none]) := hB; clear hb1' hB hK)
      | fail)
    refine bodyPost_ret (v := AV 0 (lo4 o) (some p4)) (by unfold AV; simp [results, Tryf.results15, go_sem, ((((HB1.out.set 0 _).set 1 _).set 2 _)).cell]) rfl ?_
    exact ⟨rfl, (((HK1.out.set (.inl rfl) _).set (.inl rfl) _).set (.inl rfl) _).below (Nat.le_refl _) (fun i h => by have : i = w.heap.size + 1 := h; omega)⟩
  · rw [if_neg h4]
    have n4 : ¬ (n : Int) = 4 := by omega
    by_cases h6 : n = 16
    · subst h6
      rw [if_pos rfl]
      clear hz hx n4 h4
      go_enter Tryf.func15, Tryf.ntmps15
      go_wp2_with (first
        | (go_at_call 36; go_must (refine (from16_any _ o p4 p6 _ (by exact HZ.out _ (((Below.refl _ _).alloc (Nat.le_refl _) _).alloc (by simp) _)) (by exact oct16 o)).mono ?_); rintro e w1 ⟨rfl, hb1'⟩; unfold AV; obtain ⟨hB, hK⟩ := boxed hb1'; have d0 : w1.cell? ⟨w.heap.size + 1, 0, none⟩ = some (.int .u64 0) := hB.cell 0; have d1 : w1.cell? ⟨w.heap.size + 1, 1, none⟩ = some (.int .u64 0) := hB.cell 1; have d2 : w1.cell? ⟨w.heap.size + 1, 2, none⟩ = some (.pointer none) := hB.cell 2; have f := hB.frozen; have HK1 : Hid (Kept w w1 (fun i => i = w.heap.size + 1)) := hK; have HB1 : Hid (Blk w1 (w.heap.size + 1) 62 #[.int .u64 0, .int .u64 0, .pointer none]) := hB; clear hb1' hB hK)
        | fail)
      refine bodyPost_ret (v := AV (be8 o) (be8 fun i => o (8 + i)) (some p6)) (by unfold AV; simp [results, Tryf.results15, go_sem, ((((HB1.out.set 0 _).set 1 _).set 2 _)).cell]) rfl ?_
      exact ⟨rfl, (((HK1.out.set (.inl rfl) _).set (.inl rfl) _).set (.inl rfl) _).below (Nat.le_refl _) (fun i h => by have : i = w.heap.size + 1 := h; omega)⟩
    · rw [if_neg h6]
      have n6 : ¬ (n : Int) = 16 := by omega
      clear hz hx h6 h4
      go_enter Tryf.func15, Tryf.ntmps15
      go_wp2
      refine bodyPost_ret (v := AV 0 0 none) (by unfold AV; simp [results, Tryf.results15, go_sem]) rfl ?_
      exact ⟨rfl, ((Below.refl _ _).alloc (Nat.le_refl _) _).alloc (by simp) _⟩

end Go.Proofs.Qxb6003713aFmt
