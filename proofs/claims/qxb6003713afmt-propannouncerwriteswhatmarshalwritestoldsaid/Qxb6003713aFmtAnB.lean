import Derived.Test.Qxb6003713aFmtAnA
import Derived.Deep.RegionHeld3
namespace Go.Proofs.Qxb6003713aFmt
open Go.RowKit
set_option linter.unusedSimpArgs false
set_option linter.unusedVariables false

/-- Eight octets as a number. -/
def be8 (b : Nat → UInt8) : Nat := (b 7).toNat + (b 6).toNat * 256 + (b 5).toNat * 65536 + (b 4).toNat * 16777216 + (b 3).toNat * 4294967296 + (b 2).toNat * 1099511627776 + (b 1).toNat * 281474976710656 + (b 0).toNat * 72057594037927936

set_option maxRecDepth 100000 in
set_option maxHeartbeats 2000000 in
theorem beu64_any (b : Nat → UInt8) (g o n c : Nat) (w : World) (hn : 8 ≤ n)
    (c0 : w.cell? ⟨g, o, none⟩ = some (.int .u8 (b 0).toNat)) (c1 : w.cell? ⟨g, o + 1, none⟩ = some (.int .u8 (b 1).toNat)) (c2 : w.cell? ⟨g, o + 2, none⟩ = some (.int .u8 (b 2).toNat)) (c3 : w.cell? ⟨g, o + 3, none⟩ = some (.int .u8 (b 3).toNat)) (c4 : w.cell? ⟨g, o + 4, none⟩ = some (.int .u8 (b 4).toNat)) (c5 : w.cell? ⟨g, o + 5, none⟩ = some (.int .u8 (b 5).toNat)) (c6 : w.cell? ⟨g, o + 6, none⟩ = some (.int .u8 (b 6).toNat)) (c7 : w.cell? ⟨g, o + 7, none⟩ = some (.int .u8 (b 7).toNat)) :
    Calls Tryf.prog 50 #[.slice (some ⟨g, o, none⟩) n c] w fun e w' => e = .returned (.int .u64 (be8 b : Nat)) ∧ ∃ q, w' = w.drewN q := by
  have h0 : (b 0).toNat < 256 := (b 0).toNat_lt
  have h1 : (b 1).toNat < 256 := (b 1).toNat_lt
  have h2 : (b 2).toNat < 256 := (b 2).toNat_lt
  have h3 : (b 3).toNat < 256 := (b 3).toNat_lt
  have h4 : (b 4).toNat < 256 := (b 4).toNat_lt
  have h5 : (b 5).toNat < 256 := (b 5).toNat_lt
  have h6 : (b 6).toNat < 256 := (b 6).toNat_lt
  have h7 : (b 7).toNat < 256 := (b 7).toNat_lt
  have hv : ((be8 b : Nat) : Int) = ((b 7).toNat : Int) + ((b 6).toNat : Int) * 256 + ((b 5).toNat : Int) * 65536 + ((b 4).toNat : Int) * 16777216 + ((b 3).toNat : Int) * 4294967296 + ((b 2).toNat : Int) * 1099511627776 + ((b 1).toNat : Int) * 281474976710656 + ((b 0).toNat : Int) * 72057594037927936 := by
    unfold be8; omega
  have q0 : 0 < n := by omega
  have q1 : (1 : Int) < (n : Int) := by omega
  have q2 : (2 : Int) < (n : Int) := by omega
  have q3 : (3 : Int) < (n : Int) := by omega
  have q4 : (4 : Int) < (n : Int) := by omega
  have q5 : (5 : Int) < (n : Int) := by omega
  have q6 : (6 : Int) < (n : Int) := by omega
  have q7 : (7 : Int) < (n : Int) := by omega
  go_enter Tryf.func50, Tryf.ntmps50
  go_wp2
  go_quiet (fail)
  go_wp2
  go_ret
  refine ⟨?_, _, rfl⟩
  simp (disch := omega) only [u64_wrap_id, u64_or8, u64_or16, u64_or24, u64_or32, u64_or40, u64_or48, u64_or56]
  rw [hv]
  rfl

theorem be8_lt (b : Nat → UInt8) : be8 b < 18446744073709551616 := by
  have h0 : (b 0).toNat < 256 := (b 0).toNat_lt
  have h1 : (b 1).toNat < 256 := (b 1).toNat_lt
  have h2 : (b 2).toNat < 256 := (b 2).toNat_lt
  have h3 : (b 3).toNat < 256 := (b 3).toNat_lt
  have h4 : (b 4).toNat < 256 := (b 4).toNat_lt
  have h5 : (b 5).toNat < 256 := (b 5).toNat_lt
  have h6 : (b 6).toNat < 256 := (b 6).toNat_lt
  have h7 : (b 7).toNat < 256 := (b 7).toNat_lt
  unfold be8
  omega

/-- An array of n octets, whatever its spelling. -/
def Oct (xs : Array Value) (n : Nat) (o : Nat → UInt8) : Prop := xs.size = n ∧ ∀ i, i < n → xs[i]? = some (.int .u8 (o i).toNat)

theorem Oct.cell {xs : Array Value} {n : Nat} {o : Nat → UInt8} (h : Oct xs n o) (i : Nat) (hi : i < n) (w W : World) (t : TypeId) (x : Obj) (hW : W.heap = ((w.alloc (.cells xs t)).alloc x).heap) : W.cell? ⟨w.heap.size, i, none⟩ = some (.int .u8 (o i).toNat) := by
  have h1 : (w.alloc (.cells xs t)).cell? ⟨w.heap.size, i, none⟩ = some (.int .u8 (o i).toNat) := by
    simp only [World.cell?, heap_alloc_new]
    exact h.2 i hi
  have h2 := cell_later ((Below.refl _ _).alloc (Nat.le_refl _) x) h1
  unfold World.cell? at h2 ⊢
  rw [hW]
  exact h2

set_option maxRecDepth 100000 in
set_option maxHeartbeats 2000000 in
theorem from16_any (xs : Array Value) (o : Nat → UInt8) (p4 p6 : Addr) (w : World) (hz : Zs w p4 p6) (hx : Oct xs 16 o) :
    Calls Tryf.prog 36 #[.agg xs] w fun e w' => e = .returned (AV (be8 o) (be8 fun i => o (8 + i)) (some p6)) ∧ Below w.heap.size w w' := by
  have hc := hz.c6
  have h3 : 3 < w.heap.size := World.block_lt_of_cell? w _ hc
  have HX : Hid (Oct xs 16 o) := hx
  clear hz hx
  go_enter Tryf.func36, Tryf.ntmps36
  go_wp2_with fail
  have HC : Hid (∀ i, i < 16 → ((w.alloc (.cells xs 39)).alloc (.cells #[.int .u64 0, .int .u64 0, .pointer none] 62)).cell? ⟨w.heap.size, i, none⟩ = some (.int .u8 (o i).toNat)) := fun i hi => HX.out.cell i hi w _ 39 _ rfl
  go_region_held3 (fun w' => w'.cell? ⟨3, 0, none⟩ = some (.pointer (some p6))) ((first | go_keep | exact Kept.cell (((((((Kept.refl w (fun _ => False)).alloc _).alloc _).drewN _).set (.inr (by omega)) _).set (.inr (by omega)) _).set (.inr (by omega)) _) hc (fun h => h))) ((first
    | (go_at_call 50; have _tok := q2; refine (beu64_any (fun i => o (8 + i)) w.heap.size 8 8 8 _ (by omega) (by exact HC.out 8 (by omega)) (by exact HC.out 9 (by omega)) (by exact HC.out 10 (by omega)) (by exact HC.out 11 (by omega)) (by exact HC.out 12 (by omega)) (by exact HC.out 13 (by omega)) (by exact HC.out 14 (by omega)) (by exact HC.out 15 (by omega))).mono ?_; rintro e w3 ⟨rfl, q3, rfl⟩)
    | (go_at_call 50; refine (beu64_any o w.heap.size 0 8 16 _ (by omega) (by exact HC.out 0 (by omega)) (by exact HC.out 1 (by omega)) (by exact HC.out 2 (by omega)) (by exact HC.out 3 (by omega)) (by exact HC.out 4 (by omega)) (by exact HC.out 5 (by omega)) (by exact HC.out 6 (by omega)) (by exact HC.out 7 (by omega))).mono ?_; rintro e w2 ⟨rfl, q2, rfl⟩)
    | fail))
  go_wp2
  refine bodyPost_ret (v := AV (be8 o) (be8 fun i => o (8 + i)) (some p6)) (by unfold AV; simp [results, Tryf.results36, go_sem]) rfl ?_
  exact ⟨rfl, (((((((Kept.refl w (fun _ => False)).alloc _).alloc _).drewN _).set (.inr (by omega)) _).set (.inr (by omega)) _).set (.inr (by omega)) _).below (Nat.le_refl _) (fun _ h => h.elim)⟩

end Go.Proofs.Qxb6003713aFmt
