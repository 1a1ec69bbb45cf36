/-
  Small laws over any program that the walks of this seat lean on: bytes as cells; 'append' from whatever source onto a row that the call owns, with the exact frame; slices that came in. No Go function is named here.
-/
import Derived.WalkKit
import Derived.WalkSpells
import Derived.WalkLawsBesides
import Derived.Maps.AppendAt
import Derived.Deep.AppendSrc
import Derived.Deep.RegionHeld3
namespace Go.Proofs.Qxb6003861aFmt
open Go.RowKit

/-- Bytes as cells. -/
def bc (l : List UInt8) : List Value := l.map fun b => Value.int .u8 (b.toNat : Int)

theorem bc_length (l : List UInt8) : (bc l).length = l.length := by simp [bc]
theorem bc_append (a b : List UInt8) : bc (a ++ b) = bc a ++ bc b := by simp [bc]
theorem bc_one (l : List UInt8) : ∀ u ∈ bc l, u.oneCell' = true := by
  intro u hu
  obtain ⟨_, _, rfl⟩ := List.mem_map.1 hu
  rfl
theorem bc_get (l : List UInt8) (j : Nat) (h : j < l.length) : (bc l)[j]? = some (.int .u8 (l[j].toNat : Int)) := by simp [bc, h]

/-- w' is w grown: what v owned may have been written on, all else that lay in w stands; v' lies where v lay, or in a new block. -/
structure Ext (w w' : World) (v v' : Value) : Prop where
  grown : w.grownBy w' v.ownBlock
  lies : v'.ownBlock = v.ownBlock ∨ ∃ g, v'.ownBlock = some g ∧ w.heap.size ≤ g

theorem Ext.refl (w : World) (v : Value) : Ext w w v v := ⟨World.grownBy.refl _ _, .inl rfl⟩

theorem Ext.trans {a b c : World} {v v' v'' : Value} (h : Ext a b v v') (k : Ext b c v' v'') : Ext a c v v'' := by
  refine ⟨⟨k.grown.os.trans h.grown.os, k.grown.tape.trans h.grown.tape, k.grown.output.trans h.grown.output, Nat.le_trans h.grown.size k.grown.size, fun i hi hne => ?_⟩, ?_⟩
  · refine (k.grown.block i (Nat.lt_of_lt_of_le hi h.grown.size) ?_).trans (h.grown.block i hi hne)
    rcases h.lies with e | ⟨g, e, hg⟩
    · rw [e]; exact hne
    · rw [e]; intro q; cases q; omega
  · rcases k.lies with e | ⟨g, e, hg⟩
    · rcases h.lies with e' | ⟨g', e', hg'⟩
      · exact .inl (e.trans e')
      · exact .inr ⟨g', e.trans e', hg'⟩
    · exact .inr ⟨g, e, Nat.le_trans h.grown.size hg⟩

theorem Ext.of_alloc {w w' : World} {v v' : Value} {o : Obj} (h : Ext (w.alloc o) w' v v') : Ext w w' v v' := by
  refine ⟨⟨h.grown.os, h.grown.tape, h.grown.output, ?_, fun i hi hne => ?_⟩, ?_⟩
  · have := h.grown.size; simp at this; omega
  · exact (h.grown.block i (by simp; omega) hne).trans (Below.heap_alloc w o i hi)
  · rcases h.lies with e | ⟨g, e, hg⟩
    · exact .inl e
    · exact .inr ⟨g, e, by simp at hg; omega⟩

theorem Ext.of_drew {w w' : World} {v v' : Value} (h : Ext w.drew w' v v') : Ext w w' v v' := ⟨⟨h.grown.os, h.grown.tape, h.grown.output, h.grown.size, h.grown.block⟩, h.lies⟩
theorem Ext.drew {w w' : World} {v v' : Value} (h : Ext w w' v v') : Ext w w'.drew v v' := ⟨⟨h.grown.os, h.grown.tape, h.grown.output, h.grown.size, h.grown.block⟩, h.lies⟩
theorem Ext.alloc {w w' : World} {v v' : Value} (h : Ext w w' v v') (o : Obj) : Ext w (w'.alloc o) v v' :=
  ⟨⟨h.grown.os, h.grown.tape, h.grown.output, by have := h.grown.size; simp; omega, fun i hi hne => (Below.heap_alloc w' o i (Nat.lt_of_lt_of_le hi h.grown.size)).trans (h.grown.block i hi hne)⟩, h.lies⟩

/-- What lies below B stands, if v lies from B on. -/
theorem Ext.below {w0 w w' : World} {v v' : Value} {B : Nat} (h : Ext w w' v v') (hb : Below B w0 w) (hB : B ≤ w.heap.size) (hv : ∀ k, v.ownBlock = some k → B ≤ k) : Below B w0 w' := hb.grown h.grown hB hv

/-- A block of w other than v's stands. -/
theorem Ext.block {w w' : World} {v v' : Value} (h : Ext w w' v v') {k : Nat} (hk : k < w.heap.size) (hne : v.ownBlock ≠ some k) : w'.heap[k]? = w.heap[k]? :=
  h.grown.block k hk (fun e => hne e.symm)

theorem Ext.size {w w' : World} {v v' : Value} (h : Ext w w' v v') : w.heap.size ≤ w'.heap.size := h.grown.size

/-- WHAT A SLICE SHOWS: the cells l lie behind the address (of a slice without elements nothing is asked). -/
def View (w : World) (ao : Option Addr) (l : List Value) : Prop := l = [] ∨ ∃ b off, ao = some ⟨b, off, none⟩ ∧ b < w.heap.size ∧ ∀ j u, l[j]? = some u → w.cell? ⟨b, off + j, none⟩ = some u

theorem View.nil (w : World) (ao : Option Addr) : View w ao [] := .inl rfl
theorem View.at {w : World} {ao : Option Addr} {l : List Value} (h : View w ao l) {j : Nat} (hj : j < l.length) : ∃ b off, ao = some ⟨b, off, none⟩ ∧ b < w.heap.size ∧ ∀ j u, l[j]? = some u → w.cell? ⟨b, off + j, none⟩ = some u := by
  rcases h with rfl | h
  · simp at hj
  · exact h
theorem View.below {w w' : World} {ao : Option Addr} {l : List Value} {B : Nat} (h : View w ao l) (hb : Below B w w') (hB : ∀ b off, ao = some ⟨b, off, none⟩ → b < B) : View w' ao l := by
  rcases h with h | ⟨b, off, e, hlt, hc⟩
  · exact .inl h
  · exact .inr ⟨b, off, e, Nat.lt_of_lt_of_le hlt hb.size, fun j u hu => (hb.cell (p := ⟨b, off + j, none⟩) (hB b off e)).trans (hc j u hu)⟩
theorem View.all {w w' : World} {ao : Option Addr} {l : List Value} (h : View w ao l) (hb : Below w.heap.size w w') : View w' ao l := by
  rcases h with h | ⟨b, off, e, hlt, hc⟩
  · exact .inl h
  · exact .inr ⟨b, off, e, Nat.lt_of_lt_of_le hlt hb.size, fun j u hu => (hb.cell (p := ⟨b, off + j, none⟩) hlt).trans (hc j u hu)⟩
theorem View.ext {w w' : World} {ao : Option Addr} {l : List Value} {v v' : Value} (h : View w ao l) (hx : Ext w w' v v') (hne : ∀ b off, ao = some ⟨b, off, none⟩ → v.ownBlock ≠ some b) : View w' ao l := by
  rcases h with h | ⟨b, off, e, hlt, hc⟩
  · exact .inl h
  · exact .inr ⟨b, off, e, Nat.lt_of_lt_of_le hlt hx.size, fun j u hu => (World.cell?_of_block (w := w) (hx.block hlt (hne b off e))).trans (hc j u hu)⟩
theorem View.alloc {w : World} {ao : Option Addr} {l : List Value} (h : View w ao l) (o : Obj) : View (w.alloc o) ao l := h.all ((Below.refl _ _).alloc (Nat.le_refl _) o)
theorem View.drew {w : World} {ao : Option Addr} {l : List Value} (h : View w ao l) : View w.drew ao l := h
theorem View.drewN {w : World} {ao : Option Addr} {l : List Value} (h : View w ao l) (n : Nat) : View (w.drewN n) ao l := h
/-- 'append', FROM WHATEVER SOURCE, onto a row that the call owns. -/
theorem run_append_any {P : Program} (w : World) (base : Nat) (t tx ty e : TypeId) (i : TypeInfo) (z : Value) (size bytes : Nat) (ht : P.underlying t = some (.slice e)) (hi : P.info? e = some i) (hz : i.zero = some z)
    (hsize : i.size = size) (hby : i.bytes = bytes) (hzs : z.cells.size = size)
    (v : Value) (n : Nat) (xs : List Value) (hown : w.ownsRow base e size v n xs)
    (x : Value) (m : Nat) (news : List Value) (hs : Src P size tx x m news w)
    (h63 : n + m ≤ maxLen) (hbytes : (n + m) * bytes ≤ 140737488355328) (hbase : base ≤ w.heap.size) :
    ∃ v' w', (Builtin.append_ #[t, tx] ty #[v, x]).run P w = .ok v' w' ∧ w'.ownsRow base e size v' (n + m) (xs ++ news) ∧ Ext w w' v v' ∧ (v' = .slice none 0 0 ↔ v = .slice none 0 0 ∧ m = 0) ∧ w'.ownsRow base e size v n xs := by
  subst hsize
  subst hby
  have hsmall : n + m ≤ 9223372036854775807 := by simp only [maxLen] at h63; omega
  have hlen : (xs ++ news).length = (n + m) * i.size := by rw [List.length_append, hown.1, hs.newsLen, Nat.add_mul]
  have grown : ∀ (old : Nat), old < n + m → ∀ (v : Value),
      (w.drew.alloc (.cells ((xs ++ news).toArray ++ Builtin.zeroCells z.cells (grownCap w (n + m) old e - (n + m))) e)).ownsRow base e i.size
        (.slice (some ⟨w.heap.size, 0, none⟩) (n + m) (grownCap w (n + m) old e)) (n + m) (xs ++ news) ∧
      Ext w (w.drew.alloc (.cells ((xs ++ news).toArray ++ Builtin.zeroCells z.cells (grownCap w (n + m) old e - (n + m))) e)) v (.slice (some ⟨w.heap.size, 0, none⟩) (n + m) (grownCap w (n + m) old e)) := by
    intro old ho v
    have hge := grownCap_ge w (n + m) old e
    have hcm : grownCap w (n + m) old e ≤ maxLen := grownCap_le_maxLen w (n + m) old e h63
    refine ⟨⟨hlen, .inr ⟨w.heap.size, _, _, rfl, hbase, heap_alloc_new w.drew _, hge, hcm, ?_, ?_⟩⟩, ⟨⟨rfl, rfl, rfl, by simp, fun k hk _ => Below.heap_alloc w.drew _ k hk⟩, .inr ⟨w.heap.size, rfl, Nat.le_refl _⟩⟩⟩
    · simp only [Array.size_append, List.size_toArray, size_zeroCells, hzs, hlen, ← Nat.add_mul]
      congr 1
      omega
    · simp only [Array.toList_append]
      rw [← hlen]
      exact List.take_left
  rcases hown.2 with ⟨rfl, rfl⟩ | ⟨g, cap, cur, rfl, hbg, hg, hnc, hcm, hcs, htake⟩
  · have hx : xs = [] := List.eq_nil_of_length_eq_zero (by simpa using hown.1)
    subst hx
    by_cases hm : m = 0
    · subst hm
      have hn : news = [] := List.eq_nil_of_length_eq_zero (by simpa using hs.newsLen)
      subst hn
      refine ⟨.slice none 0 0, w, ?_, World.ownsRow_nil w base e i.size, Ext.refl _ _, by simp, hown⟩
      have hc := hs.cells
      rcases hs.kind with ⟨e', hk⟩ | hk <;> simp [Builtin.append_, run_underlying ht, run_underlying hk, sizeOf, typeInfo, hi, hs.len, hc]
    · have hold : (Builtin.firstCells i.size 0 (.slice none 0 0)).run P w.drew = .ok ([] : List Value).toArray w.drew := run_firstCells_none w.drew i.size 0 0 0
      have hr := run_append_grow_src (P := P) w t tx ty e i z ht hi hz none 0 0 [] hold x m news hs (by omega) (by omega) (growslice_fits (by omega) hbytes)
      have hgr := grown 0 (by omega) (.slice none 0 0)
      exact ⟨_, _, hr, hgr.1, hgr.2, by simp [hm], World.ownsRow_nil _ base e i.size⟩
  · by_cases hroom : n + m ≤ cap
    · have hfit : n * i.size + news.length ≤ cur.size := by rw [hs.newsLen, hcs, ← Nat.add_mul]; exact Nat.mul_le_mul_right _ hroom
      have hst := run_storeCells_at P g (n * i.size) e news 0 cur w hg (by simpa using hfit) hs.one
      simp only [Nat.add_zero] at hst
      have hr : (Builtin.append_ #[t, tx] ty #[.slice (some ⟨g, 0, none⟩) n cap, x]).run P w =
          .ok (.slice (some ⟨g, 0, none⟩) (n + m) cap) (w.setRow g (cur.toList.take (n * i.size) ++ news ++ cur.toList.drop (n * i.size + news.length)).toArray) := by
        rcases hs.kind with ⟨e', hk⟩ | hk <;> simp [Builtin.append_, run_underlying ht, run_underlying hk, sizeOf, typeInfo, hi, hs.len, hroom, hs.cells, Addr.add_lit, hst]
      refine ⟨_, _, hr, ⟨hlen, .inr ⟨g, cap, _, rfl, hbg, setRow_heap w g cur _ e _ hg, hroom, hcm, ?_, ?_⟩⟩, ⟨⟨rfl, rfl, rfl, by simp, fun k _ hk => setRow_other w g k _ (fun e => hk (by simp [Value.ownBlock, e]))⟩, Or.inl rfl⟩, by simp, ⟨hown.1, .inr ⟨g, cap, _, rfl, hbg, setRow_heap w g cur _ e _ hg, hnc, hcm, ?_, ?_⟩⟩⟩
      · simp only [List.size_toArray, List.length_append, List.length_take, List.length_drop, Array.length_toList]
        omega
      · rw [htake, ← hlen]
        exact List.take_left
      · simp only [List.size_toArray, List.length_append, List.length_take, List.length_drop, Array.length_toList]
        omega
      · rw [htake, List.append_assoc, ← hown.1]
        exact List.take_left
    · have hold : (Builtin.firstCells i.size n (.slice (some ⟨g, 0, none⟩) n cap)).run P w.drew = .ok xs.toArray w.drew :=
        run_firstCells_some w.drew i.size n ⟨g, 0, none⟩ n cap xs hown.1 (fun j u hu => by simpa using hown.cells (g := g) rfl j u hu)
      have hr := run_append_grow_src (P := P) w t tx ty e i z ht hi hz (some ⟨g, 0, none⟩) n cap xs hold x m news hs (by omega) (by omega) (growslice_fits (by omega) hbytes)
      have hgr := grown cap (by omega) (.slice (some ⟨g, 0, none⟩) n cap)
      exact ⟨_, _, hr, hgr.1, hgr.2, by simp, hown.kept (w' := w.drew.alloc _) (row := none) ⟨rfl, rfl, rfl, by simp, fun k hk _ => Below.heap_alloc w.drew _ k hk⟩ (.inr (by simp [Value.ownBlock]))⟩

section
variable {P : Program} (w : World)

/-- At the operation. -/
theorem wp_append_any {o : Oper} {a : Act} {K : Act → World → Prop} {Q : Exit → Act → World → Prop} (s y : Operand) (t tx : TypeId)
    (ho : o.op = .call { callee := .builtin .append, args := #[s, y], argTypes := #[t, tx] })
    (base : Nat) (e : TypeId) (i : TypeInfo) (z : Value) (size bytes : Nat) (ht : P.underlying t = some (.slice e)) (hi : P.info? e = some i) (hz : i.zero = some z)
    (hsize : i.size = size) (hby : i.bytes = bytes) (hzs : z.cells.size = size)
    (v : Value) (n : Nat) (xs : List Value) (hv : a.eval s = v) (hown : w.ownsRow base e size v n xs)
    (x : Value) (m : Nat) (news : List Value) (hx : a.eval y = x) (hs : Src P size tx x m news w)
    (h63 : n + m ≤ maxLen) (hbytes : (n + m) * bytes ≤ 140737488355328) (hbase : base ≤ w.heap.size)
    (h : ∀ v' w', w'.ownsRow base e size v' (n + m) (xs ++ news) → Ext w w' v v' → (v' = .slice none 0 0 ↔ v = .slice none 0 0 ∧ m = 0) → w'.ownsRow base e size v n xs → K (a.put o.dst v') w') : o.wp P a w K Q := by
  obtain ⟨v', w', hr, h2, h3, h4, h5⟩ := run_append_any (P := P) w base t tx o.type e i z size bytes ht hi hz hsize hby hzs v n xs hown x m news hs h63 hbytes hbase
  unfold Oper.wp execOp
  simp only [ho, resolve, invoke, builtin, Sem.run_bind, Sem.run_pure, Result.andThen_ok, List.map_toArray, List.map_cons, List.map_nil, hv, hx, hr]
  exact h v' w' h2 h3 h4 h5

/-- At the list of a plain region's operations. -/
theorem wpList_append_any {ops : Array Oper} {rest : List Oper} {o : Oper} {a : Act} {Q : Exit → Act → World → Prop} (hgd : o.guard = none) (s y : Operand) (t tx : TypeId)
    (ho : o.op = .call { callee := .builtin .append, args := #[s, y], argTypes := #[t, tx] })
    (base : Nat) (e : TypeId) (i : TypeInfo) (z : Value) (size bytes : Nat) (ht : P.underlying t = some (.slice e)) (hi : P.info? e = some i) (hz : i.zero = some z)
    (hsize : i.size = size) (hby : i.bytes = bytes) (hzs : z.cells.size = size)
    (v : Value) (n : Nat) (xs : List Value) (hv : a.eval s = v) (hown : w.ownsRow base e size v n xs)
    (x : Value) (m : Nat) (news : List Value) (hx : a.eval y = x) (hs : Src P size tx x m news w)
    (h63 : n + m ≤ maxLen) (hbytes : (n + m) * bytes ≤ 140737488355328) (hbase : base ≤ w.heap.size)
    (h : ∀ v' w', w'.ownsRow base e size v' (n + m) (xs ++ news) → Ext w w' v v' → (v' = .slice none 0 0 ↔ v = .slice none 0 0 ∧ m = 0) → w'.ownsRow base e size v n xs → wpList P ops Q rest (a.put o.dst v') w') : wpList P ops Q (o :: rest) a w :=
  wpList_plain hgd fun _ hK => wp_append_any w s y t tx ho base e i z size bytes ht hi hz hsize hby hzs v n xs hv hown x m news hx hs h63 hbytes hbase fun v' w' h2 h3 h4 h5 => hK _ _ (h v' w' h2 h3 h4 h5)

/-- At a step of a region that draws its order. -/
theorem step_append_any {ops : Array Oper} {o : Oper} {a : Act} {K : Act → World → Prop} {Q : Exit → Act → World → Prop} {E : Prop} (hgd : o.guard = none) (s y : Operand) (t tx : TypeId)
    (ho : o.op = .call { callee := .builtin .append, args := #[s, y], argTypes := #[t, tx] })
    (base : Nat) (e : TypeId) (i : TypeInfo) (z : Value) (size bytes : Nat) (ht : P.underlying t = some (.slice e)) (hi : P.info? e = some i) (hz : i.zero = some z)
    (hsize : i.size = size) (hby : i.bytes = bytes) (hzs : z.cells.size = size)
    (v : Value) (n : Nat) (xs : List Value) (hv : a.eval s = v) (hown : w.ownsRow base e size v n xs)
    (x : Value) (m : Nat) (news : List Value) (hx : a.eval y = x) (hs : Src P size tx x m news w)
    (h63 : n + m ≤ maxLen) (hbytes : (n + m) * bytes ≤ 140737488355328) (hbase : base ≤ w.heap.size)
    (h : ∀ v' w', w'.ownsRow base e size v' (n + m) (xs ++ news) → Ext w w' v v' → (v' = .slice none 0 0 ↔ v = .slice none 0 0 ∧ m = 0) → w'.ownsRow base e size v n xs → K (a.put o.dst v') w') :
    if Region.wanted o (yielded ops a.tmps) = true then Oper.wp P o a w K Q else E := by
  have hw : Region.wanted o (yielded ops a.tmps) = true := by simp [Region.wanted, hgd]
  rw [if_pos hw]
  exact wp_append_any w s y t tx ho base e i z size bytes ht hi hz hsize hby hzs v n xs hv hown x m news hx hs h63 hbytes hbase h

/-- The bytes of a literal that lie in a new block of their own. -/
theorem Src.lit {tx e' : TypeId} (hk : P.underlying tx = some (.slice e')) (l : List UInt8) (cs : Array Value) (m c : Nat) (t : TypeId) (hcs : cs.toList = bc l) (hm : l.length = m) :
    Src P 1 tx (.slice (some ⟨w.heap.size, 0, none⟩) m c) m (bc l) (w.alloc (.cells cs t)) :=
  Src.ofSlice (w.alloc (.cells cs t)) hk ⟨w.heap.size, 0, none⟩ m c (bc l) (by rw [bc_length, hm, Nat.mul_one]) (fun j u hu => by
    rw [Addr.add_lit, World.cell?_alloc_mark]
    simpa [← hcs] using hu) (bc_one l)

theorem Src.litD {tx e' : TypeId} (hk : P.underlying tx = some (.slice e')) (l : List UInt8) (cs : Array Value) (m c : Nat) (t : TypeId) (hcs : cs.toList = bc l) (hm : l.length = m) :
    Src P 1 tx (.slice (some ⟨w.heap.size, 0, none⟩) m c) m (bc l) (w.alloc (.cells cs t)).drew :=
  Src.ofSlice (w.alloc (.cells cs t)).drew hk ⟨w.heap.size, 0, none⟩ m c (bc l) (by rw [bc_length, hm, Nat.mul_one]) (fun j u hu => by
    rw [Addr.add_lit]
    show (w.alloc (.cells cs t)).cell? _ = _
    rw [World.cell?_alloc_mark]
    simpa [← hcs] using hu) (bc_one l)
/-- The same, the block's number under a name. -/
theorem Src.litH {tx e' : TypeId} (hk : P.underlying tx = some (.slice e')) (l : List UInt8) (cs : Array Value) (m c : Nat) (t : TypeId) (H : Nat) (hH : w.heap.size = H) (hcs : cs.toList = bc l) (hm : l.length = m) :
    Src P 1 tx (.slice (some ⟨H, 0, none⟩) m c) m (bc l) (w.alloc (.cells cs t)) := by
  subst hH; exact Src.lit w hk l cs m c t hcs hm
theorem Src.litHD {tx e' : TypeId} (hk : P.underlying tx = some (.slice e')) (l : List UInt8) (cs : Array Value) (m c : Nat) (t : TypeId) (H : Nat) (hH : w.heap.size = H) (hcs : cs.toList = bc l) (hm : l.length = m) :
    Src P 1 tx (.slice (some ⟨H, 0, none⟩) m c) m (bc l) (w.alloc (.cells cs t)).drew := by
  subst hH; exact Src.litD w hk l cs m c t hcs hm
/-- Bytes that a slice shows. -/
theorem Src.view {tx e' : TypeId} (hk : P.underlying tx = some (.slice e')) (ao : Option Addr) (l : List UInt8) (c : Nat) (hV : View w ao (bc l)) (hnil : ao = none → l = []) : Src P 1 tx (.slice ao l.length c) l.length (bc l) w := by
  cases ao with
  | none =>
    obtain rfl := hnil rfl
    exact Src.ofNil w hk c
  | some a =>
    rcases hV with h | ⟨b, off, e, _, hc⟩
    · have : l = [] := by simpa [bc] using h
      subst this
      exact Src.ofSlice w hk a 0 c [] (by simp) (fun j u hu => by simp at hu) (fun u hu => by cases hu)
    · cases e
      exact Src.ofSlice w hk ⟨b, off, none⟩ _ c (bc l) (by rw [bc_length, Nat.mul_one]) (fun j u hu => by rw [Addr.add_lit]; exact hc j u hu) (bc_one l)
/-- Bytes that lie at an address. -/
theorem Src.at {tx e' : TypeId} (hk : P.underlying tx = some (.slice e')) (b off : Nat) (l : List UInt8) (m c : Nat) (hm : l.length = m) (h : ∀ j (hj : j < l.length), w.cell? ⟨b, off + j, none⟩ = some (.int .u8 (l[j].toNat : Int))) :
    Src P 1 tx (.slice (some ⟨b, off, none⟩) m c) m (bc l) w :=
  Src.ofSlice w hk ⟨b, off, none⟩ m c (bc l) (by rw [bc_length, hm, Nat.mul_one]) (fun j u hu => by
    have hj : j < l.length := by have := (List.getElem?_eq_some_iff.1 hu).1; simpa [bc_length] using this
    rw [Addr.add_lit, h j hj, ← bc_get l j hj, hu]) (bc_one l)

end

/-- A row of bytes that the call owns. -/
def OB (e : TypeId) (B : Nat) (w : World) (v : Value) (l : List UInt8) : Prop := w.ownsRow B e 1 v l.length (bc l)

theorem OB.nil (e : TypeId) (B : Nat) (w : World) : OB e B w (.slice none 0 0) [] := World.ownsRow_nil _ _ _ _
theorem OB.of {e : TypeId} {B : Nat} {w : World} {v : Value} {l m : List UInt8} {n : Nat} {xs : List Value} (h : w.ownsRow B e 1 v n xs) (hn : n = (l ++ m).length) (hx : xs = bc (l ++ m)) : OB e B w v (l ++ m) := by
  subst hn; subst hx; exact h
theorem OB.app {e : TypeId} {B : Nat} {w : World} {v : Value} {l m : List UInt8} {k : Nat} (h : w.ownsRow B e 1 v (l.length + k) (bc l ++ bc m)) (hk : m.length = k) : OB e B w v (l ++ m) := by
  subst hk; unfold OB; rw [List.length_append, bc_append]; exact h
theorem OB.alloc {e : TypeId} {B : Nat} {w : World} {v : Value} {l : List UInt8} (h : OB e B w v l) (o : Obj) : OB e B (w.alloc o) v l := World.ownsRow.alloc h o
theorem OB.drew {e : TypeId} {B : Nat} {w : World} {v : Value} {l : List UInt8} (h : OB e B w v l) : OB e B w.drew v l := h
/-- The value's shape. -/
theorem OB.form {e : TypeId} {B : Nat} {w : World} {v : Value} {l : List UInt8} (h : OB e B w v l) : (v = .slice none 0 0 ∧ l = []) ∨ ∃ g cap, v = .slice (some ⟨g, 0, none⟩) l.length cap ∧ B ≤ g ∧ g < w.heap.size ∧ l.length ≤ cap ∧ cap ≤ maxLen := by
  rcases h.2 with ⟨h1, h2⟩ | ⟨g, cap, cur, hv, hb, hg, hc, hm, _⟩
  · exact .inl ⟨h1, List.eq_nil_of_length_eq_zero h2⟩
  · exact .inr ⟨g, cap, hv, hb, (Array.getElem?_eq_some_iff.1 hg).1, hc, hm⟩
/-- A cell of it. -/
theorem OB.cell {e : TypeId} {B : Nat} {w : World} {g n cap : Nat} {l : List UInt8} (h : OB e B w (.slice (some ⟨g, 0, none⟩) n cap) l) (j : Nat) (hj : j < l.length) : w.cell? ⟨g, j, none⟩ = some (.int .u8 (l[j].toNat : Int)) := by
  have := World.ownsRow.cells h (g := g) rfl j _ (bc_get l j hj)
  simpa [Addr.add_lit] using this
theorem OB.src {P : Program} {e e' tx : TypeId} {B : Nat} {w : World} {v : Value} {l : List UInt8} (hk : P.underlying tx = some (.slice e')) (h : OB e B w v l) : Src P 1 tx v l.length (bc l) w := by
  rcases h.form with ⟨rfl, rfl⟩ | ⟨g, cap, rfl, _⟩
  · exact Src.ofNil w hk 0
  · exact Src.ofSlice w hk ⟨g, 0, none⟩ _ cap (bc l) (by rw [bc_length, Nat.mul_one]) (World.ownsRow.cells h (g := g) rfl) (bc_one l)
/-- A row that is not written on stays. -/
theorem OB.kept {e : TypeId} {B : Nat} {w w' : World} {v u u' : Value} {l : List UInt8} (h : OB e B w v l) (k : Ext w w' u u') (hne : v.ownBlock = none ∨ v.ownBlock ≠ u.ownBlock) : OB e B w' v l := World.ownsRow.kept h k.grown hne
theorem OB.below {e : TypeId} {B C : Nat} {w w' : World} {v : Value} {l : List UInt8} (h : OB e B w v l) (k : Below C w w') (hv : ∀ k, v.ownBlock = some k → k < C) : OB e B w' v l := by
  refine ⟨h.1, ?_⟩
  rcases h.2 with hn | ⟨g, cap, cur, rfl, hb, hgg, rest⟩
  · exact .inl hn
  · exact .inr ⟨g, cap, cur, rfl, hb, by rw [k.block g (hv g rfl)]; exact hgg, rest⟩
theorem OB.base {e : TypeId} {B B' : Nat} {w : World} {v : Value} {l : List UInt8} (h : OB e B w v l) (hB : ∀ k, v.ownBlock = some k → B' ≤ k) : OB e B' w v l := by
  refine ⟨h.1, ?_⟩
  rcases h.2 with hn | ⟨g, cap, cur, rfl, hb, rest⟩
  · exact .inl hn
  · exact .inr ⟨g, cap, cur, rfl, hB g rfl, rest⟩
theorem OB.lt {e : TypeId} {B : Nat} {w : World} {v : Value} {l : List UInt8} (h : OB e B w v l) : ∀ k, v.ownBlock = some k → B ≤ k ∧ k < w.heap.size := World.ownsRow.lt h

/-- A row under way stands while what grew out of it grows on. -/
theorem ownsRow_still {e : TypeId} {B size : Nat} {w w' : World} {v u u' : Value} {n m : Nat} {xs d : List Value} (h : w.ownsRow B e size v n xs) (hu : w.ownsRow B e size u (n + m) (xs ++ d)) (hx : Ext w w' u u') (hu' : w'.ownsRow B e size u (n + m) (xs ++ d)) : w'.ownsRow B e size v n xs := by
  refine ⟨h.1, ?_⟩
  rcases h.2 with hn | ⟨g, cap, cur, rfl, hb, hgg, hnc, hcm, hcs, htk⟩
  · exact .inl hn
  · right
    have hlt : g < w.heap.size := (Array.getElem?_eq_some_iff.1 hgg).1
    by_cases e1 : u.ownBlock = some g
    · rcases hu.2 with ⟨rfl, _⟩ | ⟨g2, cap2, cur2, rfl, _, hg2, _, _, hc2, _⟩
      · simp [Value.ownBlock] at e1
      · simp [Value.ownBlock] at e1
        subst e1
        rcases hu'.2 with ⟨q, _⟩ | ⟨g3, cap3, cur3, q, _, hg3, _, _, hc3, ht3⟩
        · cases q
        · cases q
          rw [hgg] at hg2
          have ec : cur = cur2 := by simpa using hg2
          subst ec
          refine ⟨g2, cap, cur3, rfl, hb, hg3, hnc, hcm, ?_, ?_⟩
          · rw [hc3, ← hcs, hc2]
          · have : cur3.toList.take (n * size) = ((cur3.toList.take ((n + m) * size)).take (n * size)) := by
              rw [List.take_take]; congr 1; rw [Nat.add_mul]; omega
            rw [this, ht3, ← h.1]
            exact List.take_left
    · exact ⟨g, cap, cur, rfl, hb, by rw [hx.block hlt e1]; exact hgg, hnc, hcm, hcs, htk⟩

theorem OB.still {e : TypeId} {B : Nat} {w w' : World} {v u u' : Value} {l d : List UInt8} (h : OB e B w v l) (hu : OB e B w u (l ++ d)) (hx : Ext w w' u u') (hu' : OB e B w' u (l ++ d)) : OB e B w' v l := by
  unfold OB at *
  rw [List.length_append, bc_append] at hu hu'
  exact ownsRow_still h hu hx hu'

/-- What a row of the call's own shows. -/
theorem View.own {e : TypeId} {B : Nat} {w : World} {v : Value} {n : Nat} {xs : List Value} (h : w.ownsRow B e 1 v n xs) : ∃ ao cap, v = .slice ao n cap ∧ View w ao xs ∧ xs.length = n ∧ n ≤ cap ∧ cap ≤ maxLen ∧ (ao = none → n = 0 ∧ cap = 0) ∧ (∀ a, ao = some a → a.off = 0 ∧ a.spot = none ∧ B ≤ a.block ∧ a.block < w.heap.size) := by
  rcases h.2 with ⟨rfl, rfl⟩ | ⟨g, cap, cur, rfl, hb, hg, hnc, hcm, _⟩
  · exact ⟨none, 0, rfl, .inl (List.eq_nil_of_length_eq_zero (by simpa using h.1)), by simpa using h.1, Nat.le_refl _, by unfold maxLen; omega, fun _ => ⟨rfl, rfl⟩, fun a q => by cases q⟩
  · have hlt : g < w.heap.size := (Array.getElem?_eq_some_iff.1 hg).1
    refine ⟨some ⟨g, 0, none⟩, cap, rfl, .inr ⟨g, 0, rfl, hlt, fun j u hu => ?_⟩, by simpa using h.1, hnc, hcm, (fun q => by cases q), (fun a q => by cases q; exact ⟨rfl, rfl, hb, hlt⟩)⟩
    have := h.cells (g := g) rfl j u hu
    simpa [Addr.add_lit] using this

end Go.Proofs.Qxb6003861aFmt
