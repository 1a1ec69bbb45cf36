import Derived.Test.Qxb6003713aFmtAnB
namespace Go.Proofs.Qxb6003713aFmt
open Go.RowKit
set_option linter.unusedSimpArgs false
set_option linter.unusedVariables false

/-- A block of plain cells. -/
def Blk (w : World) (g : Nat) (T : TypeId) (xs : Array Value) : Prop := w.heap[g]? = some (.cells xs T (0, 0))
theorem Blk.lt {w : World} {g : Nat} {T : TypeId} {xs : Array Value} (h : Blk w g T xs) : g < w.heap.size := (Array.getElem?_eq_some_iff.1 h).1
theorem Blk.cell {w : World} {g : Nat} {T : TypeId} {xs : Array Value} (h : Blk w g T xs) (k : Nat) : w.cell? ⟨g, k, none⟩ = xs[k]? := by
  unfold Blk at h
  simp [World.cell?, h]
theorem Blk.has {w : World} {g : Nat} {T : TypeId} {xs : Array Value} (h : Blk w g T xs) (k : Nat) (hk : k < xs.size) : ∃ y, w.cell? ⟨g, k, none⟩ = some y := ⟨xs[k], by rw [h.cell]; simp [hk]⟩
theorem Blk.frozen {w : World} {g : Nat} {T : TypeId} {xs : Array Value} (h : Blk w g T xs) (k : Nat) : w.frozen? ⟨g, k, none⟩ = false := by
  unfold Blk at h
  simp [World.frozen?, h]
theorem Blk.kept {w w' : World} {g : Nat} {T : TypeId} {xs : Array Value} {X : Nat → Prop} (h : Blk w g T xs) (k : Kept w w' X) (hX : ¬ X g) : Blk w' g T xs := (k.block g h.lt hX).trans h
theorem Blk.set {w : World} {g : Nat} {T : TypeId} {xs : Array Value} (h : Blk w g T xs) (k : Nat) (v : Value) : Blk (w.setCell ⟨g, k, none⟩ v) g T (xs.setIfInBounds k v) := by
  unfold Blk at h ⊢
  have hl := (Array.getElem?_eq_some_iff.1 h)
  obtain ⟨hlt, he⟩ := hl
  simp [World.setCell, Array.getElem?_modify, h]
theorem Blk.new (w : World) (T : TypeId) (xs : Array Value) : Blk (w.alloc (.cells xs T)) w.heap.size T xs := heap_alloc_new w _
theorem Blk.drewN {w : World} {g : Nat} {T : TypeId} {xs : Array Value} (h : Blk w g T xs) (n : Nat) : Blk (w.drewN n) g T xs := h
/-- What a part of it shows. -/
theorem Blk.view {w : World} {g : Nat} {T : TypeId} {xs : Array Value} (h : Blk w g T xs) (l : List Value) (hl : xs.toList = l) : View w (some ⟨g, 0, none⟩) l := by
  right
  refine ⟨g, 0, rfl, h.lt, fun j u hu => ?_⟩
  rw [Nat.zero_add, h.cell, ← hu, ← hl]
  simp

/-- A number's octets. -/
def b4 (v : Nat) : List UInt8 := [by8 (v / 16777216 % 256 : Nat), by8 (v / 65536 % 256 : Nat), by8 (v / 256 % 256 : Nat), by8 (v % 256 : Nat)]
def b8 (v : Nat) : List UInt8 := [by8 (v / 72057594037927936 % 256 : Nat), by8 (v / 281474976710656 % 256 : Nat), by8 (v / 1099511627776 % 256 : Nat), by8 (v / 4294967296 % 256 : Nat), by8 (v / 16777216 % 256 : Nat), by8 (v / 65536 % 256 : Nat), by8 (v / 256 % 256 : Nat), by8 (v % 256 : Nat)]
theorem bc_by8 (x : Nat) (h : x < 256) : Value.int .u8 ((by8 (x : Int)).toNat : Int) = .int .u8 (x : Int) := by rw [by8_nat _ (by omega) (by omega)]
abbrev c8 (x : Nat) : Value := .int .u8 ((by8 ((x % 256 : Nat) : Int)).toNat : Int)
theorem c8_eq (x : Nat) (y : Int) (h : IntKind.u8.wrap y = (x : Int) % 256) : Value.int .u8 (IntKind.u8.wrap y) = c8 x := by
  show _ = Value.int .u8 _
  rw [by8_nat _ (by omega) (by omega), h]
  congr 1

set_option maxRecDepth 100000 in
theorem put32_any (g n c : Nat) (v : Nat) (T : TypeId) (xs : Array Value) (w : World) (hn : 4 ≤ n) (hv : v < 4294967296) (hB : Blk w g T xs) (hs : 4 ≤ xs.size) :
    Calls Tryf.prog 59 #[.slice (some ⟨g, 0, none⟩) n c, .int .u32 v] w fun e w' => e = .returned (.tuple #[]) ∧
      w' = ((((w.setCell ⟨g, 0, none⟩ (c8 (v / 16777216))).setCell ⟨g, 1, none⟩ (c8 (v / 65536))).setCell ⟨g, 2, none⟩ (c8 (v / 256))).setCell ⟨g, 3, none⟩ (c8 v)) := by
  have f := hB.frozen
  obtain ⟨y0, k0⟩ : ∃ y, w.cell? ⟨g, 0, none⟩ = some y := hB.has 0 (by omega)
  obtain ⟨y1, k1⟩ : ∃ y, w.cell? ⟨g, 1, none⟩ = some y := hB.has 1 (by omega)
  obtain ⟨y2, k2⟩ : ∃ y, w.cell? ⟨g, 2, none⟩ = some y := hB.has 2 (by omega)
  obtain ⟨y3, k3⟩ : ∃ y, w.cell? ⟨g, 3, none⟩ = some y := hB.has 3 (by omega)
  have q0 : 0 < n := by omega
  have q1 : (1 : Int) < (n : Int) := by omega
  have q2 : (2 : Int) < (n : Int) := by omega
  have q3 : (3 : Int) < (n : Int) := by omega
  have E0 : Hid (Value.int .u8 (IntKind.u8.wrap ((v : Int) / 16777216)) = c8 (v / 16777216)) := c8_eq _ _ (by rw [IntKind.wrap_u8]; omega)
  have E1 : Hid (Value.int .u8 (IntKind.u8.wrap ((v : Int) / 65536)) = c8 (v / 65536)) := c8_eq _ _ (by rw [IntKind.wrap_u8]; omega)
  have E2 : Hid (Value.int .u8 (IntKind.u8.wrap ((v : Int) / 256)) = c8 (v / 256)) := c8_eq _ _ (by rw [IntKind.wrap_u8]; omega)
  have E3 : Hid (Value.int .u8 (IntKind.u8.wrap (v : Int)) = c8 v) := c8_eq _ _ (by rw [IntKind.wrap_u8])
  rw [← E0.out, ← E1.out, ← E2.out, ← E3.out]
  clear hB hs hv hn
  go_enter Tryf.func59, Tryf.ntmps59
  go_wp2
  refine bodyPost_end (v := .tuple #[]) (by simp [results, Tryf.results59, go_sem]) rfl ?_
  exact ⟨rfl, rfl⟩

set_option maxRecDepth 100000 in
set_option maxHeartbeats 1000000 in
theorem put64_any (g o n c : Nat) (v : Nat) (T : TypeId) (xs : Array Value) (w : World) (hn : 8 ≤ n) (hv : v < 18446744073709551616) (hB : Blk w g T xs) (hs : o + 8 ≤ xs.size) :
    Calls Tryf.prog 60 #[.slice (some ⟨g, o, none⟩) n c, .int .u64 v] w fun e w' => e = .returned (.tuple #[]) ∧
      w' = ((((((((w.setCell ⟨g, o, none⟩ (c8 (v / 72057594037927936))).setCell ⟨g, o + 1, none⟩ (c8 (v / 281474976710656))).setCell ⟨g, o + 2, none⟩ (c8 (v / 1099511627776))).setCell ⟨g, o + 3, none⟩ (c8 (v / 4294967296))).setCell ⟨g, o + 4, none⟩ (c8 (v / 16777216))).setCell ⟨g, o + 5, none⟩ (c8 (v / 65536))).setCell ⟨g, o + 6, none⟩ (c8 (v / 256))).setCell ⟨g, o + 7, none⟩ (c8 v)) := by
  have f := hB.frozen
  obtain ⟨y0, k0⟩ : ∃ y, w.cell? ⟨g, o, none⟩ = some y := hB.has o (by omega)
  obtain ⟨y1, k1⟩ : ∃ y, w.cell? ⟨g, o + 1, none⟩ = some y := hB.has (o + 1) (by omega)
  obtain ⟨y2, k2⟩ : ∃ y, w.cell? ⟨g, o + 2, none⟩ = some y := hB.has (o + 2) (by omega)
  obtain ⟨y3, k3⟩ : ∃ y, w.cell? ⟨g, o + 3, none⟩ = some y := hB.has (o + 3) (by omega)
  obtain ⟨y4, k4⟩ : ∃ y, w.cell? ⟨g, o + 4, none⟩ = some y := hB.has (o + 4) (by omega)
  obtain ⟨y5, k5⟩ : ∃ y, w.cell? ⟨g, o + 5, none⟩ = some y := hB.has (o + 5) (by omega)
  obtain ⟨y6, k6⟩ : ∃ y, w.cell? ⟨g, o + 6, none⟩ = some y := hB.has (o + 6) (by omega)
  obtain ⟨y7, k7⟩ : ∃ y, w.cell? ⟨g, o + 7, none⟩ = some y := hB.has (o + 7) (by omega)
  have q0 : 0 < n := by omega
  have q1 : (1 : Int) < (n : Int) := by omega
  have q2 : (2 : Int) < (n : Int) := by omega
  have q3 : (3 : Int) < (n : Int) := by omega
  have q4 : (4 : Int) < (n : Int) := by omega
  have q5 : (5 : Int) < (n : Int) := by omega
  have q6 : (6 : Int) < (n : Int) := by omega
  have q7 : (7 : Int) < (n : Int) := by omega
  have E0 : Hid (Value.int .u8 (IntKind.u8.wrap ((v : Int) / 72057594037927936)) = c8 (v / 72057594037927936)) := c8_eq _ _ (by rw [IntKind.wrap_u8]; omega)
  have E1 : Hid (Value.int .u8 (IntKind.u8.wrap ((v : Int) / 281474976710656)) = c8 (v / 281474976710656)) := c8_eq _ _ (by rw [IntKind.wrap_u8]; omega)
  have E2 : Hid (Value.int .u8 (IntKind.u8.wrap ((v : Int) / 1099511627776)) = c8 (v / 1099511627776)) := c8_eq _ _ (by rw [IntKind.wrap_u8]; omega)
  have E3 : Hid (Value.int .u8 (IntKind.u8.wrap ((v : Int) / 4294967296)) = c8 (v / 4294967296)) := c8_eq _ _ (by rw [IntKind.wrap_u8]; omega)
  have E4 : Hid (Value.int .u8 (IntKind.u8.wrap ((v : Int) / 16777216)) = c8 (v / 16777216)) := c8_eq _ _ (by rw [IntKind.wrap_u8]; omega)
  have E5 : Hid (Value.int .u8 (IntKind.u8.wrap ((v : Int) / 65536)) = c8 (v / 65536)) := c8_eq _ _ (by rw [IntKind.wrap_u8]; omega)
  have E6 : Hid (Value.int .u8 (IntKind.u8.wrap ((v : Int) / 256)) = c8 (v / 256)) := c8_eq _ _ (by rw [IntKind.wrap_u8]; omega)
  have E7 : Hid (Value.int .u8 (IntKind.u8.wrap (v : Int)) = c8 v) := c8_eq _ _ (by rw [IntKind.wrap_u8])
  rw [← E0.out, ← E1.out, ← E2.out, ← E3.out, ← E4.out, ← E5.out, ← E6.out, ← E7.out]
  clear hB hs hv hn
  go_enter Tryf.func60, Tryf.ntmps60
  go_wp2
  refine bodyPost_end (v := .tuple #[]) (by simp [results, Tryf.results60, go_sem]) rfl ?_
  exact ⟨rfl, rfl⟩

end Go.Proofs.Qxb6003713aFmt
