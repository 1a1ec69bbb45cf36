import Derived.Test.Qxb6003778aFmtAnF
namespace Go.Proofs.Qxb6003778aFmt
open Go.RowKit
set_option linter.unusedVariables false
set_option linter.unusedSimpArgs false

/-- The record's block. -/
abbrev recOf (ts : Int) (sub : Int) (bs : Value) : Array Value := #[.int .u32 ts, .int .u16 16, .int .u16 sub, bs]

theorem bgp_any (rb : Nat) (ts sub : Int) (bs : Value) (w : World) (hB : Blk w rb 40 (recOf ts sub bs)) : Calls Tryf.prog 25 #[.pointer (some ⟨rb, 0, none⟩)] w fun e w' => e = .returned (.bool true) ∧ w' = w := by
  have c1 : w.cell? ⟨rb, 1, none⟩ = some (.int .u16 16) := hB.cell 1
  clear hB
  go_enter Tryf.func25, Tryf.ntmps25
  go_wp2
  go_ret
  exact ⟨rfl, rfl⟩

theorem isMsg_any (rb : Nat) (ts sub : Int) (bs : Value) (w : World) (hB : Blk w rb 40 (recOf ts sub bs)) (hs : sub = 1 ∨ sub = 4 ∨ sub = 6 ∨ sub = 7) : Calls Tryf.prog 17 #[.pointer (some ⟨rb, 0, none⟩)] w fun e w' => e = .returned (.bool true) ∧ w' = w := by
  have c2 : w.cell? ⟨rb, 2, none⟩ = some (.int .u16 sub) := hB.cell 2
  have HB : Hid (Blk w rb 40 (recOf ts sub bs)) := hB
  clear hB
  rcases hs with rfl | rfl | rfl | rfl
  all_goals (
    go_enter Tryf.func17, Tryf.ntmps17
    go_wp2_with (first
      | (go_at_call 25; go_must (refine (bgp_any rb ts _ bs _ HB.out).mono ?_); rintro e w1 ⟨rfl, rfl⟩)
      | fail)
    go_ret
    exact ⟨rfl, rfl⟩)

abbrev Z8 : Array Value := #[.int .u32 0, .int .u32 0, .int .u64 0, .int .u64 0, .pointer none, .int .u64 0, .int .u64 0, .pointer none]
/-- The frame of readPeers: its two variables. -/
structure Frm (w W : World) (xs : Array Value) : Prop where
  kept : Kept w W (fun i => i = w.heap.size + 2 ∨ i = w.heap.size + 3)
  b6 : Blk W (w.heap.size + 2) 62 Z8
  b13 : Blk W (w.heap.size + 3) 62 xs
theorem Frm.below {w W : World} {xs : Array Value} (h : Frm w W xs) : Below w.heap.size w W := h.kept.below (Nat.le_refl _) (fun i q => by rcases q with q | q <;> omega)
theorem Frm.later {w W W' : World} {xs : Array Value} (h : Frm w W xs) (hb : Below W.heap.size W W') : Frm w W' xs :=
  ⟨h.kept.trans (Kept.ofAll hb _), (hb.block _ h.b6.lt).trans h.b6, (hb.block _ h.b13.lt).trans h.b13⟩
theorem Frm.drew {w W : World} {xs : Array Value} (h : Frm w W xs) : Frm w W.drew xs := ⟨h.kept.drew, h.b6, h.b13⟩
theorem Frm.drewN {w W : World} {xs : Array Value} (h : Frm w W xs) (n : Nat) : Frm w (W.drewN n) xs := ⟨h.kept.drewN n, h.b6, h.b13⟩
theorem Frm.f {w W : World} {xs : Array Value} (h : Frm w W xs) : ∀ k, W.frozen? ⟨w.heap.size + 3, k, none⟩ = false := h.b13.frozen
theorem Frm.set {w W : World} {xs : Array Value} (h : Frm w W xs) (k : Nat) (v : Value) : Frm w (W.setCell ⟨w.heap.size + 3, k, none⟩ v) (xs.setIfInBounds k v) :=
  ⟨h.kept.set (.inl (.inr rfl)) v, h.b6.kept ((Kept.refl W (fun i => i = w.heap.size + 3)).set (.inl rfl) v) (by show ¬ w.heap.size + 2 = w.heap.size + 3; omega), h.b13.set k v⟩
theorem Frm.mk4 (w : World) (a b : Obj) : Frm w ((((w.alloc a).alloc b).alloc (.cells Z8 62)).alloc (.cells Z8 62)) Z8 := by
  have e1 := Blk.new ((w.alloc a).alloc b) 62 Z8
  have e2 := Blk.new (((w.alloc a).alloc b).alloc (.cells Z8 62)) 62 Z8
  have s1 : ((w.alloc a).alloc b).heap.size = w.heap.size + 2 := by simp
  have s2 : (((w.alloc a).alloc b).alloc (.cells Z8 62)).heap.size = w.heap.size + 3 := by simp
  rw [s1] at e1
  rw [s2] at e2
  refine ⟨((((Kept.refl _ _).alloc _).alloc _).alloc _).alloc _, ?_, e2⟩
  exact e1.kept ((Kept.refl _ (fun _ => False)).alloc _) (fun h => h)

theorem Hid.mk' {p : Prop} (h : p) : Hid p := h

/-- Two octets as a number. -/
def be2 (b : Nat → UInt8) : Nat := (b 0).toNat * 256 + (b 1).toNat
theorem be2_lt (b : Nat → UInt8) : be2 b < 65536 := by
  have h0 := (b 0).toNat_lt
  have h1 := (b 1).toNat_lt
  unfold be2; omega
theorem be2_wrap (b : Nat → UInt8) : IntKind.u32.wrap ((be2 b : Nat) : Int) = (be2 b : Nat) := by
  have := be2_lt b
  rw [IntKind.wrap_u32]; omega
theorem uint16n_any (b : Nat → UInt8) (g o n c : Nat) (w : World) (hn : 2 ≤ n) (c0 : w.cell? ⟨g, o, none⟩ = some (.int .u8 (b 0).toNat)) (c1 : w.cell? ⟨g, o + 1, none⟩ = some (.int .u8 (b 1).toNat)) :
    Calls Tryf.prog 28 #[.agg #[], .slice (some ⟨g, o, none⟩) n c] w fun e w' => e = .returned (.int .u16 (be2 b : Nat)) ∧ Below w.heap.size w w' := by
  have h0 := (b 0).toNat_lt
  have h1 := (b 1).toNat_lt
  refine (uint16_any g o n c (b 0).toNat (b 1).toNat w hn (by omega) (by omega) (by omega) (by omega) c0 c1).mono ?_
  rintro e w' ⟨rfl, hb⟩
  exact ⟨rfl, hb⟩

end Go.Proofs.Qxb6003778aFmt
