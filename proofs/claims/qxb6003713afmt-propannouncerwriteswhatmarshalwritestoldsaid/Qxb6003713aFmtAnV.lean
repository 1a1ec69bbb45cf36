import Derived.Test.Qxb6003713aFmtAnU
namespace Go.Proofs.Qxb6003713aFmt
open Go.RowKit
set_option linter.unusedVariables false
set_option linter.unusedSimpArgs false

/-- The blocks that may still be written. -/
def MM (v nv g s : Value) : Nat → Prop := fun b => v.ownBlock = some b ∨ nv.ownBlock = some b ∨ g.ownBlock = some b ∨ s.ownBlock = some b

/-- The announcer at work: the packer, its scratch row, what was got and its copies. -/
structure LS (wl : World) (c f a : Value) (W : World) (v nv g s : Value) (cu l : List UInt8) (Mg Ms : List (List UInt8)) : Prop where
  below : Below wl.heap.size wl W
  size : wl.heap.size + 2 ≤ W.heap.size
  hP : PKb W wl.heap.size 132 c f a v
  hA : Blk W (wl.heap.size + 1) 127 #[.pointer (some ⟨wl.heap.size, 0, none⟩), nv]
  hv : OB 5 (wl.heap.size + 2) W v cu
  hn : OB 5 (wl.heap.size + 2) W nv l
  hg : GM (wl.heap.size + 2) W (MM v nv g s) g Mg
  hs : GM (wl.heap.size + 2) W (MM v nv g s) s Ms
  d1 : Dis v nv
  d2 : Dis v g
  d3 : Dis v s
  d4 : Dis nv g
  d5 : Dis nv s
  d6 : Dis g s

section
variable {wl : World} {c f a : Value} {W W' : World} {v nv g s : Value} {cu l : List UInt8} {Mg Ms : List (List UInt8)}

theorem LS.later (h : LS wl c f a W v nv g s cu l Mg Ms) (hb : Below W.heap.size W W') : LS wl c f a W' v nv g s cu l Mg Ms := by
  have hk := Kept.ofAll hb (fun _ => False)
  exact ⟨h.below.trans (hb.mono h.below.size), Nat.le_trans h.size hb.size, h.hP.kept hk (fun q => q), blk_on hb h.hA, h.hv.below hb (fun k e => (h.hv.lt k e).2), h.hn.below hb (fun k e => (h.hn.lt k e).2),
    h.hg.step hk (fun _ _ q => q) (fun _ _ _ q => q.elim) (fun _ _ _ q => q), h.hs.step hk (fun _ _ q => q) (fun _ _ _ q => q.elim) (fun _ _ _ q => q), h.d1, h.d2, h.d3, h.d4, h.d5, h.d6⟩

theorem Lies.old {W : World} {v v' : Value} (h : Lies W v v') {b : Nat} (hb : b < W.heap.size) (e : v'.ownBlock = some b) : v.ownBlock = some b := by
  rcases h with q | ⟨g', q, hg⟩
  · rw [← q]; exact e
  · rw [q] at e; cases e; omega

theorem LS.add (h : LS wl c f a W v nv g s cu l Mg Ms) {v' nv' : Value} {cu' l' : List UInt8} (hP : PKb W' wl.heap.size 132 c f a v') (hA : Blk W' (wl.heap.size + 1) 127 #[.pointer (some ⟨wl.heap.size, 0, none⟩), nv']) (hv : OB 5 (wl.heap.size + 2) W' v' cu') (hn : OB 5 (wl.heap.size + 2) W' nv' l') (hd : Dis v' nv') (hl : Lies W v v') (hln : Lies W nv nv')
    (hk : Kept W W' (fun i => i = wl.heap.size ∨ i = wl.heap.size + 1 ∨ v.ownBlock = some i ∨ nv.ownBlock = some i)) : LS wl c f a W' v' nv' g s cu' l' Mg Ms := by
  have hlt := fun b e => (h.hg.lt b e)
  have hst := fun b e => (h.hs.lt b e)
  have hM : ∀ b, wl.heap.size + 2 ≤ b → b < W.heap.size → MM v' nv' g s b → MM v nv g s b := fun b _ hb q => by
    rcases q with q | q | q | q
    · exact .inl (hl.old hb q)
    · exact .inr (.inl (hln.old hb q))
    · exact .inr (.inr (.inl q))
    · exact .inr (.inr (.inr q))
  have hX : ∀ b, wl.heap.size + 2 ≤ b → b < W.heap.size → (b = wl.heap.size ∨ b = wl.heap.size + 1 ∨ v.ownBlock = some b ∨ nv.ownBlock = some b) → MM v nv g s b := fun b hB _ q => by
    rcases q with q | q | q | q
    · omega
    · omega
    · exact .inl q
    · exact .inr (.inl q)
  refine ⟨h.below.trans (hk.below h.below.size (fun i q => by rcases q with q | q | q | q; omega; omega; (have := (h.hv.lt i q).1; omega); (have := (h.hn.lt i q).1; omega))), Nat.le_trans h.size hk.size, hP, hA, hv, hn,
    h.hg.step hk (fun b e q => ?_) hX hM, h.hs.step hk (fun b e q => ?_) hX hM, hd, h.d2.step hl (fun b e => (hlt b e).2), h.d3.step hl (fun b e => (hst b e).2), h.d4.step hln (fun b e => (hlt b e).2), h.d5.step hln (fun b e => (hst b e).2), h.d6⟩
  · have := (hlt b e).1
    rcases q with q | q | q | q
    · omega
    · omega
    · exact h.d2 b q e
    · exact h.d4 b q e
  · have := (hst b e).1
    rcases q with q | q | q | q
    · omega
    · omega
    · exact h.d3 b q e
    · exact h.d5 b q e

/-- One more message got. -/
theorem LS.pushg (h : LS wl c f a W v nv g s cu l Mg Ms) : ∃ xs, W.ownsRow (wl.heap.size + 2) 23 1 g Mg.length xs ∧
    ∀ (o : Obj) (g' : Value) (W' : World) (m : List UInt8) (b n q : Nat), W'.ownsRow (wl.heap.size + 2) 23 1 g' (Mg.length + 1) (xs ++ [.slice (some ⟨b, 0, none⟩) n q]) → Ext (W.alloc o) W' g g' → View W (some ⟨b, 0, none⟩) (bc m) → m.length = n → wl.heap.size + 2 ≤ b → b < W.heap.size → ¬ MM v nv g s b → LS wl c f a W' v nv g' s cu l (Mg ++ [m]) Ms := by
  obtain ⟨xs, h1, hp⟩ := h.hg.push (fun b e => .inr (.inr (.inl e)))
  refine ⟨xs, h1, fun o g' W' m b n q hown hext hV hn hB hb hm => ?_⟩
  have hx := hext.of_alloc
  have hk := Kept.ofExt hx
  have hl : Lies W g g' := hx.lies
  have hM : ∀ b, wl.heap.size + 2 ≤ b → b < W.heap.size → MM v nv g' s b → MM v nv g s b := fun b _ hb q => by
    rcases q with q | q | q | q
    · exact .inl q
    · exact .inr (.inl q)
    · exact .inr (.inr (.inl (hl.old hb q)))
    · exact .inr (.inr (.inr q))
  refine ⟨h.below.trans (hk.below h.below.size (fun i e => by have := (h.hg.lt i e).1; omega)), Nat.le_trans h.size hk.size, h.hP.kept hk (fun e => by have := (h.hg.lt _ e).1; omega), h.hA.kept hk (fun e => by have := (h.hg.lt _ e).1; omega), h.hv.keptX hk (fun b e q => h.d2 b e q), h.hn.keptX hk (fun b e q => h.d4 b e q),
    hp o g' W' _ m b n q hown hext hV hn hB hb hm hM, h.hs.step hk (fun b e q => h.d6 b q e) (fun b _ _ q => .inr (.inr (.inl q))) hM, h.d1, ?_, h.d3, ?_, h.d5, ?_⟩
  · exact (h.d2.symm.step hl (fun b e => (h.hv.lt b e).2)).symm
  · exact (h.d4.symm.step hl (fun b e => (h.hn.lt b e).2)).symm
  · exact h.d6.step hl (fun b e => (h.hs.lt b e).2)

/-- One more copy kept. -/
theorem LS.pushs (h : LS wl c f a W v nv g s cu l Mg Ms) : ∃ xs, W.ownsRow (wl.heap.size + 2) 23 1 s Ms.length xs ∧
    ∀ (o : Obj) (s' : Value) (W' : World) (m : List UInt8) (b n q : Nat), W'.ownsRow (wl.heap.size + 2) 23 1 s' (Ms.length + 1) (xs ++ [.slice (some ⟨b, 0, none⟩) n q]) → Ext (W.alloc o) W' s s' → View W (some ⟨b, 0, none⟩) (bc m) → m.length = n → wl.heap.size + 2 ≤ b → b < W.heap.size → ¬ MM v nv g s b → LS wl c f a W' v nv g s' cu l Mg (Ms ++ [m]) := by
  obtain ⟨xs, h1, hp⟩ := h.hs.push (fun b e => .inr (.inr (.inr e)))
  refine ⟨xs, h1, fun o s' W' m b n q hown hext hV hn hB hb hm => ?_⟩
  have hx := hext.of_alloc
  have hk := Kept.ofExt hx
  have hl : Lies W s s' := hx.lies
  have hM : ∀ b, wl.heap.size + 2 ≤ b → b < W.heap.size → MM v nv g s' b → MM v nv g s b := fun b _ hb q => by
    rcases q with q | q | q | q
    · exact .inl q
    · exact .inr (.inl q)
    · exact .inr (.inr (.inl q))
    · exact .inr (.inr (.inr (hl.old hb q)))
  refine ⟨h.below.trans (hk.below h.below.size (fun i e => by have := (h.hs.lt i e).1; omega)), Nat.le_trans h.size hk.size, h.hP.kept hk (fun e => by have := (h.hs.lt _ e).1; omega), h.hA.kept hk (fun e => by have := (h.hs.lt _ e).1; omega), h.hv.keptX hk (fun b e q => h.d3 b e q), h.hn.keptX hk (fun b e q => h.d5 b e q),
    h.hg.step hk (fun b e q => h.d6 b e q) (fun b _ _ q => .inr (.inr (.inr q))) hM, hp o s' W' _ m b n q hown hext hV hn hB hb hm hM, h.d1, h.d2, ?_, h.d4, ?_, ?_⟩
  · exact (h.d3.symm.step hl (fun b e => (h.hv.lt b e).2)).symm
  · exact (h.d5.symm.step hl (fun b e => (h.hn.lt b e).2)).symm
  · exact (h.d6.symm.step hl (fun b e => (h.hg.lt b e).2)).symm

/-- A block made since is not one of the mutable ones. -/
theorem LS.fresh (h : LS wl c f a W v nv g s cu l Mg Ms) {b : Nat} (hb : W.heap.size ≤ b) : ¬ MM v nv g s b := fun q => by
  rcases q with q | q | q | q
  · have := (h.hv.lt b q).2; omega
  · have := (h.hn.lt b q).2; omega
  · have := (h.hg.lt b q).2; omega
  · have := (h.hs.lt b q).2; omega
end

theorem AnAdded.stay {wl : World} {fa : Option Addr} {cf : Nat} {fx : List UInt8} {aa : Option Addr} {ca : Nat} {av : List UInt8} {L : List (List UInt8)} {k : Nat} {W : World} {v nv : Value} {e : Ending} {W' : World} {g s : Value} {l : List UInt8} {Mg Ms : List (List UInt8)} (h : AnAdded wl fa cf fx aa ca av L k W v nv e W') (hk : k < L.length) (hf : ¬ 4069 < (fx.length + av.length) + (cur (fx.length + av.length) L k).length + (el L k).length)
    (hS : LS wl (.int .u8 14) (.slice fa fx.length cf) (.slice aa av.length ca) W v nv g s (cur (fx.length + av.length) L k) l Mg Ms) :
    ∃ v' nv', e = .returned (.tuple #[.slice none 0 0, .nilIface]) ∧ LS wl (.int .u8 14) (.slice fa fx.length cf) (.slice aa av.length ca) W' v' nv' g s (cur (fx.length + av.length) L (k + 1)) (el L k) Mg Ms := by
  obtain ⟨m, v', nv', rfl, h1, h2, h3, h4, h5, h6, h7, h8, ⟨rfl, _⟩ | ⟨_, _, _, _, _, _, _, hg⟩⟩ := h
  · exact ⟨v', nv', rfl, hS.add h1 h2 h3 h4 h5 h6 h7 h8⟩
  · rw [(cur_stay hk hf).2.1] at hg
    simp at hg
theorem AnAdded.flush {wl : World} {fa : Option Addr} {cf : Nat} {fx : List UInt8} {aa : Option Addr} {ca : Nat} {av : List UInt8} {L : List (List UInt8)} {k : Nat} {W : World} {v nv : Value} {e : Ending} {W' : World} {g s : Value} {l : List UInt8} {Mg Ms : List (List UInt8)} (h : AnAdded wl fa cf fx aa ca av L k W v nv e W') (hk : k < L.length) (hf : 4069 < (fx.length + av.length) + (cur (fx.length + av.length) L k).length + (el L k).length)
    (hS : LS wl (.int .u8 14) (.slice fa fx.length cf) (.slice aa av.length ca) W v nv g s (cur (fx.length + av.length) L k) l Mg Ms) :
    ∃ v' nv' b n q, e = .returned (.tuple #[.slice (some ⟨b, 0, none⟩) n q, .nilIface]) ∧ LS wl (.int .u8 14) (.slice fa fx.length cf) (.slice aa av.length ca) W' v' nv' g s (cur (fx.length + av.length) L (k + 1)) (el L k) Mg Ms ∧
      View W' (some ⟨b, 0, none⟩) (bc (upd (flagOf 14) (14 : Nat) fx (cur (fx.length + av.length) L k) av)) ∧ (upd (flagOf 14) (14 : Nat) fx (cur (fx.length + av.length) L k) av).length = n ∧ wl.heap.size + 2 ≤ b ∧ b < W'.heap.size ∧ ¬ MM v' nv' g s b := by
  obtain ⟨m, v', nv', rfl, h1, h2, h3, h4, h5, h6, h7, h8, ⟨_, hg⟩ | ⟨b, n, q, rfl, hm, hm1, hm2, _⟩⟩ := h
  · rw [(cur_flush hk hf).2.1] at hg
    simp at hg
  · have hS' := hS.add h1 h2 h3 h4 h5 h6 h7 h8
    have hlt := hm.lt b rfl
    refine ⟨v', nv', b, n, q, rfl, hS', view_row hm, ?_, Nat.le_trans hS.size hlt.1, hlt.2, fun e => ?_⟩
    · rcases hm.form with ⟨e, _⟩ | ⟨g', c', e, _⟩
      · cases e
      · cases e; rfl
    · rcases e with e | e | e | e
      · exact hm1 e
      · exact hm2 e
      · have := (hS.hg.lt b e).2; omega
      · have := (hS.hs.lt b e).2; omega

end Go.Proofs.Qxb6003713aFmt
