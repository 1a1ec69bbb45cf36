/-
  Small laws over any program: 'append' onto a full slice (always a new row); a struct behind a pointer whose last field is written; the frame that leaves out a set of blocks; a [][]byte that is read.
-/
import Derived.Test.Qxb6003861aFmtKitM
namespace Go.Proofs.Qxb6003861aFmt
open Go.RowKit

/-- 'append' of at least one element onto a slice without spare: a new row. -/
theorem run_append_full {P : Program} (w : World) (t tx ty e : TypeId) (i : TypeInfo) (z : Value) (bytes : Nat) (ht : P.underlying t = some (.slice e)) (hi : P.info? e = some i) (hz : i.zero = some z)
    (hsize : i.size = 1) (hby : i.bytes = bytes) (hzs : z.cells.size = 1)
    (ao : Option Addr) (n : Nat) (xs : List Value) (hV : View w ao xs) (hxn : xs.length = n) (hnil : ao = none → n = 0)
    (x : Value) (m : Nat) (news : List Value) (hs : Src P 1 tx x m news w) (hm : 0 < m)
    (h63 : n + m ≤ maxLen) (hbytes : (n + m) * bytes ≤ 140737488355328) :
    ∃ v' w', (Builtin.append_ #[t, tx] ty #[.slice ao n n, x]).run P w = .ok v' w' ∧ w'.ownsRow w.heap.size e 1 v' (n + m) (xs ++ news) ∧ Ext w w' (.slice none 0 0) v' := by
  subst hby
  have hsmall : n + m ≤ 9223372036854775807 := by simp only [maxLen] at h63; omega
  have hlen : (xs ++ news).length = (n + m) * i.size := by rw [List.length_append, hxn, hs.newsLen, hsize]; omega
  have grown : (w.drew.alloc (.cells ((xs ++ news).toArray ++ Builtin.zeroCells z.cells (grownCap w (n + m) n e - (n + m))) e)).ownsRow w.heap.size e 1
        (.slice (some ⟨w.heap.size, 0, none⟩) (n + m) (grownCap w (n + m) n e)) (n + m) (xs ++ news) ∧
      Ext w (w.drew.alloc (.cells ((xs ++ news).toArray ++ Builtin.zeroCells z.cells (grownCap w (n + m) n e - (n + m))) e)) (.slice none 0 0) (.slice (some ⟨w.heap.size, 0, none⟩) (n + m) (grownCap w (n + m) n e)) := by
    have hge := grownCap_ge w (n + m) n e
    have hcm : grownCap w (n + m) n e ≤ maxLen := grownCap_le_maxLen w (n + m) n e h63
    refine ⟨⟨by rw [hlen, hsize], .inr ⟨w.heap.size, _, _, rfl, Nat.le_refl _, heap_alloc_new w.drew _, hge, hcm, ?_, ?_⟩⟩, ⟨⟨rfl, rfl, rfl, by simp, fun k hk _ => Below.heap_alloc w.drew _ k hk⟩, .inr ⟨w.heap.size, rfl, Nat.le_refl _⟩⟩⟩
    · simp only [Array.size_append, List.size_toArray, size_zeroCells, hzs, hlen, hsize]
      omega
    · simp only [Array.toList_append]
      rw [show (n + m) * 1 = (xs ++ news).length by rw [hlen, hsize]]
      exact List.take_left
  rw [← hsize] at hs
  cases ao with
  | none =>
    obtain rfl := hnil rfl
    have hx : xs = [] := List.eq_nil_of_length_eq_zero hxn
    subst hx
    have hold : (Builtin.firstCells i.size 0 (.slice none 0 0)).run P w.drew = .ok ([] : List Value).toArray w.drew := run_firstCells_none w.drew i.size 0 0 0
    have hr := run_append_grow_src (P := P) w t tx ty e i z ht hi hz none 0 0 [] hold x m news hs (by omega) (by omega) (growslice_fits (by omega) hbytes)
    exact ⟨_, _, hr, grown⟩
  | some a =>
    have hcells : ∀ j u, xs[j]? = some u → w.drew.cell? (a.add j) = some u := by
      rcases hV with rfl | ⟨b, off, hae, _, hc⟩
      · intro j u hu
        simp at hu
      · cases hae
        intro j u hu
        rw [Addr.add_lit]
        exact hc j u hu
    have hold : (Builtin.firstCells i.size n (.slice (some a) n n)).run P w.drew = .ok xs.toArray w.drew :=
      run_firstCells_some w.drew i.size n a n n xs (by rw [hxn, hsize]; omega) hcells
    have hr := run_append_grow_src (P := P) w t tx ty e i z ht hi hz (some a) n n xs hold x m news hs (by omega) (by omega) (growslice_fits (by omega) hbytes)
    exact ⟨_, _, hr, grown⟩

theorem wp_append_full {P : Program} (w : World) {o : Oper} {a : Act} {K : Act → World → Prop} {Q : Exit → Act → World → Prop} (s y : Operand) (t tx : TypeId)
    (ho : o.op = .call { callee := .builtin .append, args := #[s, y], argTypes := #[t, tx] })
    (e : TypeId) (i : TypeInfo) (z : Value) (bytes : Nat) (ht : P.underlying t = some (.slice e)) (hi : P.info? e = some i) (hz : i.zero = some z)
    (hsize : i.size = 1) (hby : i.bytes = bytes) (hzs : z.cells.size = 1)
    (ao : Option Addr) (n : Nat) (xs : List Value) (hv : a.eval s = .slice ao n n) (hV : View w ao xs) (hxn : xs.length = n) (hnil : ao = none → n = 0)
    (x : Value) (m : Nat) (news : List Value) (hx : a.eval y = x) (hs : Src P 1 tx x m news w) (hm : 0 < m)
    (h63 : n + m ≤ maxLen) (hbytes : (n + m) * bytes ≤ 140737488355328)
    (h : ∀ v' w', w'.ownsRow w.heap.size e 1 v' (n + m) (xs ++ news) → Ext w w' (.slice none 0 0) v' → K (a.put o.dst v') w') : o.wp P a w K Q := by
  obtain ⟨v', w', hr, h2, h3⟩ := run_append_full (P := P) w t tx o.type e i z bytes ht hi hz hsize hby hzs ao n xs hV hxn hnil x m news hs hm h63 hbytes
  unfold Oper.wp execOp
  simp only [ho, resolve, invoke, builtin, Sem.run_bind, Sem.run_pure, Result.andThen_ok, List.map_toArray, List.map_cons, List.map_nil, hv, hx, hr]
  exact h v' w' h2 h3

theorem step_append_full {P : Program} (w : World) {ops : Array Oper} {o : Oper} {a : Act} {K : Act → World → Prop} {Q : Exit → Act → World → Prop} {E : Prop} (hgd : o.guard = none) (s y : Operand) (t tx : TypeId)
    (ho : o.op = .call { callee := .builtin .append, args := #[s, y], argTypes := #[t, tx] })
    (e : TypeId) (i : TypeInfo) (z : Value) (bytes : Nat) (ht : P.underlying t = some (.slice e)) (hi : P.info? e = some i) (hz : i.zero = some z)
    (hsize : i.size = 1) (hby : i.bytes = bytes) (hzs : z.cells.size = 1)
    (ao : Option Addr) (n : Nat) (xs : List Value) (hv : a.eval s = .slice ao n n) (hV : View w ao xs) (hxn : xs.length = n) (hnil : ao = none → n = 0)
    (x : Value) (m : Nat) (news : List Value) (hx : a.eval y = x) (hs : Src P 1 tx x m news w) (hm : 0 < m)
    (h63 : n + m ≤ maxLen) (hbytes : (n + m) * bytes ≤ 140737488355328)
    (h : ∀ v' w', w'.ownsRow w.heap.size e 1 v' (n + m) (xs ++ news) → Ext w w' (.slice none 0 0) v' → K (a.put o.dst v') w') :
    if Region.wanted o (yielded ops a.tmps) = true then Oper.wp P o a w K Q else E := by
  have hw : Region.wanted o (yielded ops a.tmps) = true := by simp [Region.wanted, hgd]
  rw [if_pos hw]
  exact wp_append_full w s y t tx ho e i z bytes ht hi hz hsize hby hzs ao n xs hv hV hxn hnil x m news hx hs hm h63 hbytes h

/-- The frame that leaves out the blocks of X. -/
structure Kept (w w' : World) (X : Nat → Prop) : Prop where
  os : w'.os = w.os
  tape : w'.tape = w.tape
  output : w'.output = w.output
  size : w.heap.size ≤ w'.heap.size
  block : ∀ k, k < w.heap.size → ¬ X k → w'.heap[k]? = w.heap[k]?

theorem Kept.refl (w : World) (X : Nat → Prop) : Kept w w X := ⟨rfl, rfl, rfl, Nat.le_refl _, fun _ _ _ => rfl⟩
theorem Kept.trans {a b c : World} {X : Nat → Prop} (h : Kept a b X) (k : Kept b c X) : Kept a c X :=
  ⟨k.os.trans h.os, k.tape.trans h.tape, k.output.trans h.output, Nat.le_trans h.size k.size, fun i hi hx => (k.block i (Nat.lt_of_lt_of_le hi h.size) hx).trans (h.block i hi hx)⟩
/-- What may be written on behind b need only be told of a's blocks. -/
theorem Kept.next {a b c : World} {X Y : Nat → Prop} (h : Kept a b X) (k : Kept b c Y) (hxy : ∀ i, i < a.heap.size → Y i → X i) : Kept a c X :=
  ⟨k.os.trans h.os, k.tape.trans h.tape, k.output.trans h.output, Nat.le_trans h.size k.size, fun i hi hx => (k.block i (Nat.lt_of_lt_of_le hi h.size) (fun q => hx (hxy i hi q))).trans (h.block i hi hx)⟩
theorem Kept.mono {a b : World} {X Y : Nat → Prop} (h : Kept a b X) (hxy : ∀ i, i < a.heap.size → X i → Y i) : Kept a b Y :=
  ⟨h.os, h.tape, h.output, h.size, fun i hi hy => h.block i hi (fun q => hy (hxy i hi q))⟩
theorem Kept.ofBelow {a b : World} {B : Nat} (h : Below B a b) (X : Nat → Prop) (hX : ∀ i, i < a.heap.size → ¬ X i → i < B) : Kept a b X :=
  ⟨h.os, h.tape, h.output, h.size, fun i hi hx => h.block i (hX i hi hx)⟩
theorem Kept.ofAll {a b : World} (h : Below a.heap.size a b) (X : Nat → Prop) : Kept a b X := Kept.ofBelow h X fun _ hi _ => hi
theorem Kept.ofExt {a b : World} {v v' : Value} (h : Ext a b v v') : Kept a b (fun k => v.ownBlock = some k) :=
  ⟨h.grown.os, h.grown.tape, h.grown.output, h.grown.size, fun _ hi hx => h.block hi hx⟩
theorem Kept.drew {a b : World} {X : Nat → Prop} (h : Kept a b X) : Kept a b.drew X := ⟨h.os, h.tape, h.output, h.size, h.block⟩
theorem Kept.drewN {a b : World} {X : Nat → Prop} (h : Kept a b X) (n : Nat) : Kept a (b.drewN n) X := ⟨h.os, h.tape, h.output, h.size, h.block⟩
theorem Kept.alloc {a b : World} {X : Nat → Prop} (h : Kept a b X) (o : Obj) : Kept a (b.alloc o) X :=
  h.trans (Kept.ofAll ((Below.refl _ _).alloc (Nat.le_refl _) o) X)
theorem Kept.below {a b : World} {X : Nat → Prop} {B : Nat} (h : Kept a b X) (hB : B ≤ a.heap.size) (hX : ∀ i, X i → B ≤ i) : Below B a b :=
  ⟨h.os, h.tape, h.output, h.size, fun i hi => h.block i (Nat.lt_of_lt_of_le hi hB) (fun q => absurd (hX i q) (by omega))⟩
theorem Kept.cell {a b : World} {X : Nat → Prop} (h : Kept a b X) {p : Addr} {v : Value} (hc : a.cell? p = some v) (hX : ¬ X p.block) : b.cell? p = some v :=
  (World.cell?_of_block (w := a) (h.block p.block (World.block_lt_of_cell? a _ hc) hX)).trans hc
theorem View.kept {w w' : World} {ao : Option Addr} {l : List Value} {X : Nat → Prop} (h : View w ao l) (k : Kept w w' X) (hX : ∀ b off, ao = some ⟨b, off, none⟩ → ¬ X b) : View w' ao l := by
  rcases h with h | ⟨b, off, e, hlt, hc⟩
  · exact .inl h
  · exact .inr ⟨b, off, e, Nat.lt_of_lt_of_le hlt k.size, fun j u hu => k.cell (hc j u hu) (hX b off e)⟩
theorem ownsRow_keptX {e : TypeId} {B size n : Nat} {w w' : World} {v : Value} {xs : List Value} {X : Nat → Prop} (h : w.ownsRow B e size v n xs) (k : Kept w w' X) (hX : ∀ g, v.ownBlock = some g → ¬ X g) : w'.ownsRow B e size v n xs := by
  refine ⟨h.1, ?_⟩
  rcases h.2 with h2 | ⟨g, cap, cur, rfl, hb, hg, rest⟩
  · exact .inl h2
  · exact .inr ⟨g, cap, cur, rfl, hb, (k.block g (Array.getElem?_eq_some_iff.1 hg).1 (hX g rfl)).trans hg, rest⟩
theorem OB.keptX {e : TypeId} {B : Nat} {w w' : World} {v : Value} {l : List UInt8} {X : Nat → Prop} (h : OB e B w v l) (k : Kept w w' X) (hX : ∀ g, v.ownBlock = some g → ¬ X g) : OB e B w' v l := ownsRow_keptX h k hX

/-- A packer's block. -/
def PKb (w : World) (pb : Nat) (T : TypeId) (c f a v : Value) : Prop := w.heap[pb]? = some (.cells #[c, f, a, v] T (0, 0))

theorem PKb.lt {w : World} {pb : Nat} {T : TypeId} {c f a v : Value} (h : PKb w pb T c f a v) : pb < w.heap.size := (Array.getElem?_eq_some_iff.1 h).1
theorem PKb.cell {w : World} {pb : Nat} {T : TypeId} {c f a v : Value} (h : PKb w pb T c f a v) (k : Nat) : w.cell? ⟨pb, k, none⟩ = #[c, f, a, v][k]? := by
  unfold PKb at h
  simp [World.cell?, h]
theorem PKb.frozen {w : World} {pb : Nat} {T : TypeId} {c f a v : Value} (h : PKb w pb T c f a v) (k : Nat) : w.frozen? ⟨pb, k, none⟩ = false := by
  unfold PKb at h
  simp [World.frozen?, h]
theorem PKb.kept {w w' : World} {pb : Nat} {T : TypeId} {c f a v : Value} {X : Nat → Prop} (h : PKb w pb T c f a v) (k : Kept w w' X) (hX : ¬ X pb) : PKb w' pb T c f a v := (k.block pb h.lt hX).trans h
theorem PKb.set {w : World} {pb : Nat} {T : TypeId} {c f a v : Value} (h : PKb w pb T c f a v) (v' : Value) : PKb (w.setCell ⟨pb, 3, none⟩ v') pb T c f a v' := by
  have hlt := h.lt
  have hh : w.heap[pb] = .cells #[c, f, a, v] T (0, 0) := by
    have := h
    unfold PKb at this
    rw [Array.getElem?_eq_getElem hlt] at this
    exact Option.some.inj this
  unfold PKb
  rw [World.setCell, Array.getElem?_eq_getElem (by simpa using hlt), Array.getElem_modify_self, hh]
  rfl
theorem Kept.set {w w' : World} {X : Nat → Prop} (h : Kept w w' X) {pb k : Nat} (hX : X pb ∨ w.heap.size ≤ pb) (v : Value) : Kept w (w'.setCell ⟨pb, k, none⟩ v) X := by
  refine ⟨h.os, h.tape, h.output, by simpa using h.size, fun i hi hx => ?_⟩
  have hne : pb ≠ i := by
    rintro rfl
    rcases hX with q | q
    · exact hx q
    · omega
  rw [show (w'.setCell ⟨pb, k, none⟩ v).heap[i]? = w'.heap[i]? by simp [World.setCell, Array.getElem?_modify, hne]]
  exact h.block i hi hx

end Go.Proofs.Qxb6003861aFmt
