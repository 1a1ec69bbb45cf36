import Derived.Test.Qxb6003778aFmtAnG
namespace Go.Proofs.Qxb6003778aFmt
open Go.RowKit
set_option linter.unusedVariables false
set_option linter.unusedSimpArgs false

/-- The message's cells. -/
abbrev msgOf (pa la : Nat) (hp lp : Nat) (zp : Option Addr) (hl ll : Nat) (zl : Option Addr) (lc a4 : Bool) (d : Value) : Array Value :=
  #[.int .u32 pa, .int .u32 la, .int .u64 hp, .int .u64 lp, .pointer zp, .int .u64 hl, .int .u64 ll, .pointer zl, .bool lc, .bool a4, d]
abbrev Z4 : Array Value := #[.int .u32 0, .int .u16 0, .int .u16 0, .slice none 0 0]

/-- The frame of Record: its two variables and the octets so far. -/
structure Rf (w W : World) (ts sub : Int) (v : Value) (l : List UInt8) : Prop where
  kept : Kept w W (fun i => i = w.heap.size ∨ i = w.heap.size + 1)
  r0 : Blk W w.heap.size 40 Z4
  r1 : Blk W (w.heap.size + 1) 40 (recOf ts sub (.slice none 0 0))
  row : OB 5 (w.heap.size + 2) W v l
  size : w.heap.size + 2 ≤ W.heap.size
theorem Rf.below {w W : World} {ts sub : Int} {v : Value} {l : List UInt8} (h : Rf w W ts sub v l) : Below w.heap.size w W := h.kept.below (Nat.le_refl _) (fun i q => by rcases q with q | q <;> omega)
theorem Rf.drew {w W : World} {ts sub : Int} {v : Value} {l : List UInt8} (h : Rf w W ts sub v l) : Rf w W.drew ts sub v l := ⟨h.kept.drew, h.r0, h.r1, h.row, h.size⟩
theorem Rf.drewN {w W : World} {ts sub : Int} {v : Value} {l : List UInt8} (h : Rf w W ts sub v l) (n : Nat) : Rf w (W.drewN n) ts sub v l := ⟨h.kept.drewN n, h.r0, h.r1, h.row, h.size⟩
theorem Rf.later {w W W' : World} {ts sub : Int} {v : Value} {l : List UInt8} (h : Rf w W ts sub v l) (hb : Below W.heap.size W W') : Rf w W' ts sub v l :=
  ⟨h.kept.trans (Kept.ofAll hb _), (hb.block _ h.r0.lt).trans h.r0, (hb.block _ h.r1.lt).trans h.r1, h.row.keptX (Kept.ofAll hb (fun _ => False)) (fun _ _ q => q), Nat.le_trans h.size hb.size⟩
theorem Rf.own {w W : World} {ts sub : Int} {v : Value} {l : List UInt8} (h : Rf w W ts sub v l) {i : Nat} (hi : i < w.heap.size + 2) : ¬ v.ownBlock = some i := fun q => by have := (h.row.lt _ q).1; omega
theorem Rf.ext {w W W' : World} {ts sub : Int} {v v' : Value} {l l' : List UInt8} (h : Rf w W ts sub v l) (hx : Ext W W' v v') (ho : OB 5 (w.heap.size + 2) W' v' l') : Rf w W' ts sub v' l' := by
  have hk := Kept.ofExt hx
  refine ⟨h.kept.next hk (fun i hi q => absurd q (h.own (by omega))), h.r0.kept hk (h.own (by omega)), h.r1.kept hk (h.own (by omega)), ho, Nat.le_trans h.size hk.size⟩
theorem Rf.cell {w W : World} {ts sub : Int} {v : Value} {l : List UInt8} (h : Rf w W ts sub v l) {p : Addr} {u : Value} (hc : w.cell? p = some u) : W.cell? p = some u := cell_later h.below hc
theorem Rf.mk2 (w : World) (ts sub : Int) : Rf w ((w.alloc (.cells Z4 40)).alloc (.cells (recOf ts sub (.slice none 0 0)) 40)) ts sub (.slice none 0 0) [] := by
  have e1 := Blk.new w 40 Z4
  have e2 := Blk.new (w.alloc (.cells Z4 40)) 40 (recOf ts sub (.slice none 0 0))
  have s1 : (w.alloc (.cells Z4 40)).heap.size = w.heap.size + 1 := by simp
  rw [s1] at e2
  refine ⟨((Kept.refl _ _).alloc _).alloc _, e1.kept ((Kept.refl _ (fun _ => False)).alloc _) (fun h => h), e2, OB.nil _ _ _, by simp⟩

theorem OB.shape {e : TypeId} {B : Nat} {w : World} {v : Value} {l : List UInt8} (h : OB e B w v l) (hne : 0 < l.length) : ∃ g c, v = .slice (some ⟨g, 0, none⟩) l.length c ∧ View w (some ⟨g, 0, none⟩) (bc l) ∧ l.length ≤ c ∧ c ≤ maxLen := by
  obtain ⟨ao, cap, hv, hV, h1, h2, h3, h4, h5⟩ := View.own h
  cases ao with
  | none => exact absurd (h4 rfl).1 (by omega)
  | some a =>
    obtain ⟨q1, q2, _, _⟩ := h5 a rfl
    obtain ⟨b, o, sp⟩ := a
    cases q1
    cases q2
    exact ⟨b, cap, hv, hV, h2, h3⟩
theorem ext_keep {W w' : World} {v v' : Value} {p : Addr} {u : Value} (h : Ext W.drew w' v v') (hc : W.cell? p = some u) (ho : ¬ v.ownBlock = some p.block) : w'.cell? p = some u := (Kept.ofExt h).cell (a := W.drew) hc ho
theorem ext_keep0 {W w' : World} {v' : Value} {p : Addr} {u : Value} (h : Ext W.drew w' (.slice none 0 0) v') (hc : W.cell? p = some u) : w'.cell? p = some u := ext_keep h hc (fun q => by cases q)

/-- How Record ends where it succeeds. -/
def Recorded (ts sub : Int) (body : List UInt8) (w : World) (e : Ending) (w' : World) : Prop :=
  ∃ g c, e = .returned (.tuple #[.agg (recOf ts sub (.slice (some ⟨g, 0, none⟩) body.length c)), .nilIface]) ∧ View w' (some ⟨g, 0, none⟩) (bc body) ∧ body.length ≤ c ∧ c ≤ maxLen ∧ Below w.heap.size w w'

end Go.Proofs.Qxb6003778aFmt
