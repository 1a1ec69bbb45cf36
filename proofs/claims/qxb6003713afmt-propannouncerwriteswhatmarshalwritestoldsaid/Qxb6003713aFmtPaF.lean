import Derived.Test.Qxb6003713aFmtPaE
namespace Go.Proofs.Qxb6003713aFmt
open Go.RowKit
set_option linter.unusedVariables false
set_option linter.unusedSimpArgs false

theorem Tryf.info23 : (Tryf.prog.info? 23).map (fun i => (i.zero, i.size, i.bytes)) = some (some (.slice none 0 0), 1, 24) := by kernel_rfl

/-- The messages so far: a row of slices, each a row of its own. -/
def Mm (B : Nat) (w : World) (mv v : Value) (Ms : List (List UInt8)) : Prop :=
  ∃ xs : List Value, w.ownsRow B 23 1 mv Ms.length xs ∧ (∀ j, j < Ms.length → ∃ s, xs[j]? = some s ∧ OB 5 B w s (el Ms j) ∧ ∀ g, s.ownBlock = some g → v.ownBlock ≠ some g ∧ mv.ownBlock ≠ some g) ∧ (∀ g, mv.ownBlock = some g → v.ownBlock ≠ some g)

theorem Mm.nil (B : Nat) (w : World) (v : Value) : Mm B w (.slice none 0 0) v [] :=
  ⟨[], World.ownsRow_nil _ _ _ _, (fun j hj => by simp at hj), fun g h => by cases h⟩

theorem Lies.ne {w : World} {v v' : Value} (h : Lies w v v') {g : Nat} (hg : g < w.heap.size) (hv : v.ownBlock ≠ some g) : v'.ownBlock ≠ some g := by
  rcases h with e | ⟨g', e, hg'⟩
  · rw [e]; exact hv
  · rw [e]
    intro q
    cases q
    omega

theorem Mm.step {B pb : Nat} {w w' : World} {mv v v' : Value} {Ms : List (List UInt8)} (h : Mm B w mv v Ms) (hpb : pb < B) (hk : Kept w w' (fun k => k = pb ∨ v.ownBlock = some k)) (hl : Lies w v v') : Mm B w' mv v' Ms := by
  obtain ⟨xs, h1, h2, h3⟩ := h
  have hlt := World.ownsRow.lt h1
  refine ⟨xs, ownsRow_keptX h1 hk (fun g hg q => ?_), fun j hj => ?_, fun g hg => hl.ne (hlt g hg).2 (h3 g hg)⟩
  · rcases q with q | q
    · have := (hlt g hg).1
      omega
    · exact h3 g hg q
  · obtain ⟨s, e, hs, hne⟩ := h2 j hj
    refine ⟨s, e, hs.keptX hk (fun g hg q => ?_), fun g hg => ⟨hl.ne (hs.lt g hg).2 (hne g hg).1, (hne g hg).2⟩⟩
    rcases q with q | q
    · have := (hs.lt g hg).1
      omega
    · exact (hne g hg).1 q

theorem Mm.push {B : Nat} {w w' : World} {mv mv' v m : Value} {Ms : List (List UInt8)} {M : List UInt8} {o : Obj} {xs nl : List Value} {n : Nat} (h1 : w.ownsRow B 23 1 mv Ms.length xs)
    (h2 : ∀ j, j < Ms.length → ∃ s, xs[j]? = some s ∧ OB 5 B w s (el Ms j) ∧ ∀ g, s.ownBlock = some g → v.ownBlock ≠ some g ∧ mv.ownBlock ≠ some g) (h3 : ∀ g, mv.ownBlock = some g → v.ownBlock ≠ some g)
    (hm : OB 5 B w m M) (hmv : ∀ g, m.ownBlock = some g → v.ownBlock ≠ some g) (hmm : ∀ g, m.ownBlock = some g → mv.ownBlock ≠ some g) (hv : w.ownsRow B 5 1 v n nl)
    (hown : w'.ownsRow B 23 1 mv' (Ms.length + 1) (xs ++ [m])) (hext : Ext (w.alloc o) w' mv mv') : Mm B w' mv' v (Ms ++ [M]) := by
  have hx := hext.of_alloc
  have hk := Kept.ofExt hx
  have hl : Lies w mv mv' := hx.lies
  have hxl : xs.length = Ms.length := by simpa using h1.1
  have hvl := World.ownsRow.lt hv
  refine ⟨xs ++ [m], by simpa using hown, fun j hj => ?_, fun g hg q => ?_⟩
  · simp only [List.length_append, List.length_singleton] at hj
    by_cases hjj : j < Ms.length
    · obtain ⟨s, e, hs, hne⟩ := h2 j hjj
      refine ⟨s, ?_, ?_, fun g hg => ⟨(hne g hg).1, hl.ne (hs.lt g hg).2 (hne g hg).2⟩⟩
      · rw [List.getElem?_append_left (by omega)]; exact e
      · have : el (Ms ++ [M]) j = el Ms j := by simp [el, List.getD, List.getElem?_append_left hjj]
        rw [this]
        exact hs.keptX hk (fun g hg => (hne g hg).2)
    · obtain rfl : j = Ms.length := by omega
      refine ⟨m, ?_, ?_, fun g hg => ⟨hmv g hg, hl.ne (hm.lt g hg).2 (hmm g hg)⟩⟩
      · rw [← hxl]; simp
      · have : el (Ms ++ [M]) Ms.length = M := by simp [el, List.getD]
        rw [this]
        exact hm.keptX hk hmm
  · rcases hl with e | ⟨g', e, hg'⟩
    · exact h3 g (e.symm.trans hg) q
    · have := e.symm.trans hg
      cases this
      have := (hvl _ q).2
      omega

theorem gr_le (F : Nat) (L : List (List UInt8)) : ∀ i, (gr F L i).length ≤ i
  | 0 => Nat.le_refl _
  | i + 1 => by
    have := gr_le F L i
    unfold gr
    split <;> simp <;> omega

/-- The state of 'updateMessages' behind k rounds. -/
structure St (w0 : World) (pb : Nat) (fl : Int) (cn : Nat) (fx av : List UInt8) (L : List (List UInt8)) (c f a : Value) (wr : World) (mv v : Value) (k : Nat) : Prop where
  kept : Kept w0 wr (fun i => i = pb)
  hP : PKb wr pb 132 c f a v
  hO : OB 5 w0.heap.size wr v (cur (fx.length + av.length) L k)
  hM : Mm w0.heap.size wr mv v ((gr (fx.length + av.length) L k).map fun g => upd fl cn fx g av)

theorem St.vp {w0 : World} {pb : Nat} {fl : Int} {cn : Nat} {fx av : List UInt8} {L : List (List UInt8)} {c f a : Value} {wr : World} {mv v : Value} {k : Nat} (h : St w0 pb fl cn fx av L c f a wr mv v k) (hpb : pb < w0.heap.size) : v.ownBlock ≠ some pb := by
  intro q
  have := (h.hO.lt _ q).1
  omega

/-- One round's 'add', the messages' row not yet grown. -/
theorem St.added {w0 : World} {pb : Nat} {fl : Int} {cn : Nat} {fx av : List UInt8} {L : List (List UInt8)} {c f a : Value} {wr : World} {mv v : Value} {k : Nat} (h : St w0 pb fl cn fx av L c f a wr mv v k) (hpb : pb < w0.heap.size)
    {w' : World} {v' : Value} (hP : PKb w' pb 132 c f a v') (hO : OB 5 w0.heap.size w' v' (cur (fx.length + av.length) L (k + 1))) (hl : Lies wr v v') (hk : Kept wr w' (fun i => i = pb ∨ v.ownBlock = some i)) :
    Kept w0 w' (fun i => i = pb) ∧ Mm w0.heap.size w' mv v' ((gr (fx.length + av.length) L k).map fun g => upd fl cn fx g av) := by
  refine ⟨h.kept.next hk (fun i hi q => ?_), h.hM.step hpb hk hl⟩
  rcases q with q | q
  · exact q
  · have := (h.hO.lt _ q).1
    omega

end Go.Proofs.Qxb6003713aFmt
