/-
  'make([]T, n, c)', n at most c, one cell an element: a row of the call's own. Over any program.
-/
import Derived.Test.Qxb6003861aFmtKit
namespace Go.Proofs.Qxb6003861aFmt
open Go.RowKit

theorem run_make_row {P : Program} (w : World) (base : Nat) (t e : TypeId) (i : TypeInfo) (z : Value) (ht : P.underlying t = some (.slice e)) (hi : P.info? e = some i) (hz : i.zero = some z) (hsize : i.size = 1) (hz1 : z.cells = #[z])
    (kl kc : IntKind) (n c : Nat) (hnc : n ≤ c) (hbytes : i.bytes * c ≤ 281474976710656) (h63 : c ≤ maxLen) (hbase : base ≤ w.heap.size) :
    ∃ w', (Instr.makeSlice t (.int kl (n : Int)) (.int kc (c : Int))).run P w = .ok (.slice (some ⟨w.heap.size, 0, none⟩) n c) w' ∧
      w'.ownsRow base e 1 (.slice (some ⟨w.heap.size, 0, none⟩) n c) n (List.replicate n z) ∧ w.grownBy w' none ∧ w'.heap.size = w.heap.size + 1 := by
  have h63' : (c : Int) ≤ 9223372036854775807 := by
    have h := h63
    simp [maxLen] at h
    omega
  have hb' : (i.bytes : Int) * (c : Int) ≤ 281474976710656 := by
    have h : ((i.bytes * c : Nat) : Int) ≤ 281474976710656 := by omega
    rwa [Int.natCast_mul] at h
  have hr := run_make (P := P) w t e i z ht hi hz kl kc n c (by omega) (by omega) hb' h63'
  simp only [Int.toNat_natCast] at hr
  refine ⟨_, hr, ⟨by simp, .inr ⟨w.heap.size, c, _, rfl, hbase, heap_alloc_new w _, hnc, h63, ?_, ?_⟩⟩, World.grownBy_alloc w _ none, by simp⟩
  · rw [size_madeCells, hsize]
  · rw [hsize, hz1, toList_madeCells_one]
    simp [List.take_replicate, Nat.min_eq_left hnc]

theorem wpList_make_row {P : Program} (w : World) {ops : Array Oper} {rest : List Oper} {o : Oper} {a : Act} {Q : Exit → Act → World → Prop}
    (hg : o.guard = none) (l c : Operand) (t : TypeId) (hop : o.op = Op.makeSlice t l c)
    (base : Nat) (e : TypeId) (i : TypeInfo) (z : Value) (h1 : P.underlying t = some (.slice e)) (h2 : P.info? e = some i) (h3 : i.zero = some z) (h4 : i.size = 1) (hz1 : z.cells = #[z])
    (kl kc : IntKind) (L C : Int) (n m : Nat) (hl : a.eval l = .int kl L) (hc : a.eval c = .int kc C) (hL : L = (n : Int)) (hC : C = (m : Int)) (hnm : n ≤ m) (b2 : i.bytes * m ≤ 281474976710656) (b3 : m ≤ maxLen) (b4 : base ≤ w.heap.size)
    (hK : ∀ w', w'.ownsRow base e 1 (.slice (some ⟨w.heap.size, 0, none⟩) n m) n (List.replicate n z) → w.grownBy w' none → w'.heap.size = w.heap.size + 1 → wpList P ops Q rest (a.put o.dst (.slice (some ⟨w.heap.size, 0, none⟩) n m)) w') :
    wpList P ops Q (o :: rest) a w := by
  refine wpList_plain hg fun K hK' => ?_
  obtain ⟨w', hrun, r1, r2, r3⟩ := run_make_row (P := P) w base t e i z h1 h2 h3 h4 hz1 kl kc n m hnm b2 b3 b4
  subst hL
  subst hC
  unfold Oper.wp
  simp [execOp, hop, hl, hc, hrun, Result.andThen]
  exact hK' _ _ (hK w' r1 r2 r3)

/-- A literal of bytes in a block of its own. -/
theorem OB.lit (w : World) (e : TypeId) (B H : Nat) (cs : Array Value) (l : List UInt8) (n : Nat) (hH : w.heap.size = H) (hB : B ≤ w.heap.size) (hcs : cs.toList = bc l) (hn : l.length = n) (hm : n ≤ maxLen) : OB e B (w.alloc (.cells cs e)) (.slice (some ⟨H, 0, none⟩) n n) l := by
  subst hH
  have h := World.ownsRow_lit (e := e) (size := 1) w cs n hB hm (by rw [← Array.length_toList, hcs, bc_length, hn, Nat.mul_one])
  unfold OB
  rw [hn, ← hcs]
  exact h

/-- A row under way keeps its kind through a store of a byte. -/
theorem OB.stored {e : TypeId} {B : Nat} {w : World} {g n cap : Nat} {l : List UInt8} (h : OB e B w (.slice (some ⟨g, 0, none⟩) n cap) l) (hn : l.length = n) (j : Nat) (c : UInt8) :
    OB e B (w.setCell ⟨g, j, none⟩ (.int .u8 (c.toNat : Int))) (.slice (some ⟨g, 0, none⟩) n cap) (l.set j c) ∧ w.grownBy (w.setCell ⟨g, j, none⟩ (.int .u8 (c.toNat : Int))) (some g) := by
  subst hn
  have hs := World.ownsRow.stored h j (.int .u8 (c.toNat : Int))
  refine ⟨?_, hs.2⟩
  unfold OB
  have e1 : bc (l.set j c) = (bc l).set j (.int .u8 (c.toNat : Int)) := by simp [bc, List.map_set]
  rw [e1, List.length_set]
  exact hs.1

end Go.Proofs.Qxb6003861aFmt
