import Derived.Test.Qxb6003713aFmtAnC
namespace Go.Proofs.Qxb6003713aFmt
open Go.RowKit
set_option linter.unusedSimpArgs false
set_option linter.unusedVariables false

theorem Blk.drew {w : World} {g : Nat} {T : TypeId} {xs : Array Value} (h : Blk w g T xs) : Blk w.drew g T xs := h

/-- How AsSlice ends: octets of the call's own. -/
def Octets (l : List UInt8) (w : World) (e : Ending) (w' : World) : Prop :=
  ∃ ao, e = .returned (.slice ao l.length l.length) ∧ View w' ao (bc l) ∧ (ao = none → l = []) ∧ (∀ k o, ao = some ⟨k, o, none⟩ → w.heap.size ≤ k ∧ k < w'.heap.size) ∧ Below w.heap.size w w'

theorem as_none (hi lo : Nat) (p4 p6 : Addr) (w : World) (hz : Zs w p4 p6) : Calls Tryf.prog 51 #[AV hi lo none] w (Octets [] w) := by
  have hc := hz.c0
  have h4 : 4 < w.heap.size := World.block_lt_of_cell? w _ hc
  have z1 := eqz_none
  have z2 := eqz_nil
  have z3 := eqz_same
  unfold AV
  go_enter Tryf.func51, Tryf.ntmps51
  go_wp2
  go_ret
  exact ⟨none, rfl, View.nil _ _, fun _ => rfl, (fun k o h => (by cases h)), (Below.refl _ _).alloc (Nat.le_refl _) _⟩

theorem list4 (v : Nat) : ((((#[.int .u8 0, .int .u8 0, .int .u8 0, .int .u8 0].setIfInBounds 0 (c8 (v / 16777216))).setIfInBounds 1 (c8 (v / 65536))).setIfInBounds 2 (c8 (v / 256))).setIfInBounds 3 (c8 v)).toList = bc (b4 v) := by
  simp [bc, b4]

set_option maxRecDepth 100000 in
set_option maxHeartbeats 1000000 in
theorem as_four (hi lo : Nat) (p4 p6 : Addr) (w : World) (hz : Zs w p4 p6) : Calls Tryf.prog 51 #[AV hi lo (some p4)] w (Octets (b4 (lo % 4294967296)) w) := by
  have hc := hz.c0
  have hc4 := hz.c4
  have h4 : 4 < w.heap.size := World.block_lt_of_cell? w _ hc
  have z1 := eqz_none
  have z2 := eqz_nil
  have z3 := eqz_same
  have h2 : 2 < w.heap.size := World.block_lt_of_cell? w _ hc4
  have e1 : IntKind.u32.wrap (lo : Int) = ((lo % 4294967296 : Nat) : Int) := by rw [IntKind.wrap_u32]; omega
  unfold AV
  clear hz
  go_enter Tryf.func51, Tryf.ntmps51
  go_wp2_with fail
  obtain ⟨W, hW⟩ : ∃ W, W = ((w.alloc (.cells #[.int .u64 hi, .int .u64 lo, .pointer (some p4)] 62)).alloc (.cells #[.int .u8 0, .int .u8 0, .int .u8 0, .int .u8 0] 122)) := ⟨_, rfl⟩
  have HB : Hid (Blk W (w.heap.size + 1) 122 #[.int .u8 0, .int .u8 0, .int .u8 0, .int .u8 0]) := by
    have := Blk.new (w.alloc (.cells #[.int .u64 hi, .int .u64 lo, .pointer (some p4)] 62)) 122 #[.int .u8 0, .int .u8 0, .int .u8 0, .int .u8 0]
    rw [Hid, hW]; simpa using this
  have HC1 : Hid (W.cell? ⟨w.heap.size, 1, none⟩ = some (.int .u64 lo)) := by
    rw [Hid, hW]
    refine cell_later ((Below.refl _ _).alloc (Nat.le_refl _) _) ?_
    rw [(Blk.new w 62 _).cell]
    rfl
  have HK : Hid (Kept w W (fun i => i = w.heap.size + 1)) := by rw [Hid, hW]; exact ((Kept.refl _ _).alloc _).alloc _
  rw [← hW]
  clear hW
  have hC1 := HC1.out
  go_region_held3 (fun w' => w'.cell? ⟨w.heap.size, 1, none⟩ = some (.int .u64 lo)) ((first | go_keep | exact Kept.cell ((((((Kept.refl _ (fun i => i = w.heap.size + 1)).drewN _).set (.inl rfl) _).set (.inl rfl) _).set (.inl rfl) _).set (.inl rfl) _) HC1.out (by show ¬ w.heap.size = w.heap.size + 1; omega))) ((first
    | (go_at_call 59; refine (put32_any (w.heap.size + 1) 4 4 (lo % 4294967296) 122 _ _ (by omega) (by omega) (by exact HB.out) (by decide)).mono ?_; rintro e w3 ⟨rfl, rfl⟩)
    | fail))
  go_wp2
  go_ret
  have hk := ((((HK.out.set (k := 0) (.inl rfl) (c8 (lo % 4294967296 / 16777216))).set (k := 1) (.inl rfl) (c8 (lo % 4294967296 / 65536))).set (k := 2) (.inl rfl) (c8 (lo % 4294967296 / 256))).set (k := 3) (.inl rfl) (c8 (lo % 4294967296))).drew
  have hb := ((((HB.out.set 0 (c8 (lo % 4294967296 / 16777216))).set 1 (c8 (lo % 4294967296 / 65536))).set 2 (c8 (lo % 4294967296 / 256))).set 3 (c8 (lo % 4294967296))).drew
  exact ⟨some ⟨w.heap.size + 1, 0, none⟩, rfl, hb.view _ (list4 _), (fun h => (by cases h)), (fun k o h => (by cases h; exact ⟨by omega, hb.lt⟩)), hk.below (Nat.le_refl _) (fun i h => by have : i = w.heap.size + 1 := h; omega)⟩

theorem list16 (hi lo : Nat) : ((((((((((((((((#[.int .u8 0, .int .u8 0, .int .u8 0, .int .u8 0, .int .u8 0, .int .u8 0, .int .u8 0, .int .u8 0, .int .u8 0, .int .u8 0, .int .u8 0, .int .u8 0, .int .u8 0, .int .u8 0, .int .u8 0, .int .u8 0].setIfInBounds 0 (c8 (hi / 72057594037927936))).setIfInBounds 1 (c8 (hi / 281474976710656))).setIfInBounds 2 (c8 (hi / 1099511627776))).setIfInBounds 3 (c8 (hi / 4294967296))).setIfInBounds 4 (c8 (hi / 16777216))).setIfInBounds 5 (c8 (hi / 65536))).setIfInBounds 6 (c8 (hi / 256))).setIfInBounds 7 (c8 hi)).setIfInBounds 8 (c8 (lo / 72057594037927936))).setIfInBounds 9 (c8 (lo / 281474976710656))).setIfInBounds 10 (c8 (lo / 1099511627776))).setIfInBounds 11 (c8 (lo / 4294967296))).setIfInBounds 12 (c8 (lo / 16777216))).setIfInBounds 13 (c8 (lo / 65536))).setIfInBounds 14 (c8 (lo / 256))).setIfInBounds 15 (c8 lo)).toList = bc (b8 hi ++ b8 lo) := by
  simp [bc, b8]

set_option maxRecDepth 100000 in
set_option maxHeartbeats 2000000 in
theorem as_six (hi lo : Nat) (p4 p6 : Addr) (w : World) (hz : Zs w p4 p6) (hh : hi < 18446744073709551616) (hl : lo < 18446744073709551616) : Calls Tryf.prog 51 #[AV hi lo (some p6)] w (Octets (b8 hi ++ b8 lo) w) := by
  have hc := hz.c0
  have hc4 := hz.c4
  have h4 : 4 < w.heap.size := World.block_lt_of_cell? w _ hc
  have h2 : 2 < w.heap.size := World.block_lt_of_cell? w _ hc4
  have z1 := eqz_none
  have z4 : ∀ o, (Op.equalIn 9999 58 (.pointer (some p6)) (.pointer (some p4))).run Tryf.prog (w.alloc o) = .ok false (w.alloc o) := fun o => (hz.later ((Below.refl _ _).alloc (Nat.le_refl _) o)).other
  have HH : Hid (hi < 18446744073709551616) := hh
  have HL : Hid (lo < 18446744073709551616) := hl
  unfold AV
  clear hz hh hl
  go_enter Tryf.func51, Tryf.ntmps51
  go_wp2_with fail
  obtain ⟨W, hW⟩ : ∃ W, W = ((w.alloc (.cells #[.int .u64 hi, .int .u64 lo, .pointer (some p6)] 62)).alloc (.cells #[.int .u8 0, .int .u8 0, .int .u8 0, .int .u8 0, .int .u8 0, .int .u8 0, .int .u8 0, .int .u8 0, .int .u8 0, .int .u8 0, .int .u8 0, .int .u8 0, .int .u8 0, .int .u8 0, .int .u8 0, .int .u8 0] 39)) := ⟨_, rfl⟩
  have HB : Hid (Blk W (w.heap.size + 1) 39 #[.int .u8 0, .int .u8 0, .int .u8 0, .int .u8 0, .int .u8 0, .int .u8 0, .int .u8 0, .int .u8 0, .int .u8 0, .int .u8 0, .int .u8 0, .int .u8 0, .int .u8 0, .int .u8 0, .int .u8 0, .int .u8 0]) := by
    have := Blk.new (w.alloc (.cells #[.int .u64 hi, .int .u64 lo, .pointer (some p6)] 62)) 39 #[.int .u8 0, .int .u8 0, .int .u8 0, .int .u8 0, .int .u8 0, .int .u8 0, .int .u8 0, .int .u8 0, .int .u8 0, .int .u8 0, .int .u8 0, .int .u8 0, .int .u8 0, .int .u8 0, .int .u8 0, .int .u8 0]
    rw [Hid, hW]; simpa using this
  have HC0 : Hid (W.cell? ⟨w.heap.size, 0, none⟩ = some (.int .u64 hi)) := by
    rw [Hid, hW]
    refine cell_later ((Below.refl _ _).alloc (Nat.le_refl _) _) ?_
    rw [(Blk.new w 62 _).cell]
    rfl
  have HC1 : Hid (W.cell? ⟨w.heap.size, 1, none⟩ = some (.int .u64 lo)) := by
    rw [Hid, hW]
    refine cell_later ((Below.refl _ _).alloc (Nat.le_refl _) _) ?_
    rw [(Blk.new w 62 _).cell]
    rfl
  have HK : Hid (Kept w W (fun i => i = w.heap.size + 1)) := by rw [Hid, hW]; exact ((Kept.refl _ _).alloc _).alloc _
  rw [← hW]
  clear hW
  have hC0 := HC0.out
  go_region_held3 (fun w' => w'.cell? ⟨w.heap.size, 0, none⟩ = some (.int .u64 hi)) ((first | go_keep | exact Kept.cell ((((((((((Kept.refl _ (fun i => i = w.heap.size + 1)).drewN _).set (.inl rfl) _).set (.inl rfl) _).set (.inl rfl) _).set (.inl rfl) _).set (.inl rfl) _).set (.inl rfl) _).set (.inl rfl) _).set (.inl rfl) _) HC0.out (by show ¬ w.heap.size = w.heap.size + 1; omega))) ((first
    | (go_at_call 60; refine (put64_any (w.heap.size + 1) 0 8 16 hi 39 _ _ (by omega) HH.out (by exact HB.out) (by decide)).mono ?_; rintro e w3 ⟨rfl, rfl⟩)
    | fail))
  go_wp2_with fail
  obtain ⟨W2, hW2⟩ : ∃ W2, W2 = ((((((((W.setCell ⟨w.heap.size + 1, 0, none⟩ (c8 (hi / 72057594037927936))).setCell ⟨w.heap.size + 1, 1, none⟩ (c8 (hi / 281474976710656))).setCell ⟨w.heap.size + 1, 2, none⟩ (c8 (hi / 1099511627776))).setCell ⟨w.heap.size + 1, 3, none⟩ (c8 (hi / 4294967296))).setCell ⟨w.heap.size + 1, 4, none⟩ (c8 (hi / 16777216))).setCell ⟨w.heap.size + 1, 5, none⟩ (c8 (hi / 65536))).setCell ⟨w.heap.size + 1, 6, none⟩ (c8 (hi / 256))).setCell ⟨w.heap.size + 1, 7, none⟩ (c8 hi)).drew := ⟨_, rfl⟩
  have HB2 := congrArg (fun x => Hid (Blk x (w.heap.size + 1) 39 _)) hW2 |>.mpr ((((((((HB.out.set 0 (c8 (hi / 72057594037927936))).set 1 (c8 (hi / 281474976710656))).set 2 (c8 (hi / 1099511627776))).set 3 (c8 (hi / 4294967296))).set 4 (c8 (hi / 16777216))).set 5 (c8 (hi / 65536))).set 6 (c8 (hi / 256))).set 7 (c8 hi)).drew
  have HK2 : Hid (Kept w W2 (fun i => i = w.heap.size + 1)) := by rw [Hid, hW2]; exact ((((((((HK.out.set (k := 0) (.inl rfl) (c8 (hi / 72057594037927936))).set (k := 1) (.inl rfl) (c8 (hi / 281474976710656))).set (k := 2) (.inl rfl) (c8 (hi / 1099511627776))).set (k := 3) (.inl rfl) (c8 (hi / 4294967296))).set (k := 4) (.inl rfl) (c8 (hi / 16777216))).set (k := 5) (.inl rfl) (c8 (hi / 65536))).set (k := 6) (.inl rfl) (c8 (hi / 256))).set (k := 7) (.inl rfl) (c8 hi)).drew
  have HC2 : Hid (W2.cell? ⟨w.heap.size, 1, none⟩ = some (.int .u64 lo)) := by rw [Hid, hW2]; exact Kept.cell (((((((((Kept.refl W (fun i => i = w.heap.size + 1)).set (k := 0) (.inl rfl) (c8 (hi / 72057594037927936))).set (k := 1) (.inl rfl) (c8 (hi / 281474976710656))).set (k := 2) (.inl rfl) (c8 (hi / 1099511627776))).set (k := 3) (.inl rfl) (c8 (hi / 4294967296))).set (k := 4) (.inl rfl) (c8 (hi / 16777216))).set (k := 5) (.inl rfl) (c8 (hi / 65536))).set (k := 6) (.inl rfl) (c8 (hi / 256))).set (k := 7) (.inl rfl) (c8 hi)).drew HC1.out (by show ¬ w.heap.size = w.heap.size + 1; omega)
  rw [← hW2]
  clear hW2 HB HK HC1 HC0 hC0
  have hC2 := HC2.out
  go_region_held3 (fun w' => w'.cell? ⟨w.heap.size, 1, none⟩ = some (.int .u64 lo)) ((first | go_keep | exact Kept.cell ((((((((((Kept.refl _ (fun i => i = w.heap.size + 1)).drewN _).set (.inl rfl) _).set (.inl rfl) _).set (.inl rfl) _).set (.inl rfl) _).set (.inl rfl) _).set (.inl rfl) _).set (.inl rfl) _).set (.inl rfl) _) HC2.out (by show ¬ w.heap.size = w.heap.size + 1; omega))) ((first
    | (go_at_call 60; refine (put64_any (w.heap.size + 1) 8 8 8 lo 39 _ _ (by omega) HL.out (by exact HB2.out) (by simp)).mono ?_; rintro e w3 ⟨rfl, rfl⟩)
    | fail))
  go_wp2
  go_ret
  have hk := ((((((((HK2.out.set (k := 8) (.inl rfl) (c8 (lo / 72057594037927936))).set (k := 9) (.inl rfl) (c8 (lo / 281474976710656))).set (k := 10) (.inl rfl) (c8 (lo / 1099511627776))).set (k := 11) (.inl rfl) (c8 (lo / 4294967296))).set (k := 12) (.inl rfl) (c8 (lo / 16777216))).set (k := 13) (.inl rfl) (c8 (lo / 65536))).set (k := 14) (.inl rfl) (c8 (lo / 256))).set (k := 15) (.inl rfl) (c8 lo)).drew
  have hb := ((((((((HB2.out.set 8 (c8 (lo / 72057594037927936))).set 9 (c8 (lo / 281474976710656))).set 10 (c8 (lo / 1099511627776))).set 11 (c8 (lo / 4294967296))).set 12 (c8 (lo / 16777216))).set 13 (c8 (lo / 65536))).set 14 (c8 (lo / 256))).set 15 (c8 lo)).drew
  exact ⟨some ⟨w.heap.size + 1, 0, none⟩, rfl, hb.view _ (list16 _ _), (fun h => (by cases h)), (fun k o h => (by cases h; exact ⟨by omega, hb.lt⟩)), hk.below (Nat.le_refl _) (fun i h => by have : i = w.heap.size + 1 := h; omega)⟩

end Go.Proofs.Qxb6003713aFmt
