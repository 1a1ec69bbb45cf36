import Derived.Test.Qxb6003713aFmtAnV
import Derived.Deep.WholeRow
namespace Go.Proofs.Qxb6003713aFmt
open Go.RowKit
set_option linter.unusedVariables false
set_option linter.unusedSimpArgs false

theorem clone_msg (b n q : Nat) (M : List UInt8) (W : World) (hV : View W (some ⟨b, 0, none⟩) (bc M)) (hn : M.length = n) (hle : n ≤ 10000000) :
    Calls Tryf.prog 16 #[.slice (some ⟨b, 0, none⟩) n q] W fun e w' => e = .returned (.slice (some ⟨W.heap.size, 0, none⟩) n n) ∧ View w' (some ⟨W.heap.size, 0, none⟩) (bc M) ∧ W.heap.size < w'.heap.size ∧ Below W.heap.size W w' := by
  refine (clone_some W ⟨b, 0, none⟩ n q (bc M) (by rw [bc_length]; exact hn) hV (fun j hj => ⟨(M[j]'(by simpa [bc] using hj)).toNat, by simp [bc]⟩) hle).mono ?_
  rintro e w' ⟨rfl, hO, hb⟩
  obtain ⟨ao, c, e, hV', _⟩ := View.own hO
  simp only [Value.slice.injEq] at e
  rw [← e.1] at hV'
  exact ⟨rfl, hV', (World.ownsRow.lt hO _ rfl).2, hb⟩

theorem upd_len (fl cn : Int) (fx nl av : List UInt8) : (upd fl cn fx nl av).length ≤ 27 + (fx.length + nl.length + av.length) := by
  have h := attr_length fl cn (fx ++ nl)
  simp only [List.length_append] at h
  simp only [upd, msg, body, mark, List.length_append, List.length_replicate, List.length_cons, List.length_nil, be16]
  split at h <;> omega

/-- The packer's surroundings, out of what reachPacker leaves. -/
theorem pe_of {n la pa : Nat} {a4 : Bool} {o : Nat → UInt8} {cs : List (Nat → UInt8)} {pm : Option PI} {w wl : World} {fa : Option Addr} {cf : Nat} {aa : Option Addr} {ca : Nat} {rs : List RI} {L : List (List UInt8)} (hp : Packed n la pa a4 o cs pm w wl fa cf aa ca) (hF : Fl wl) (hL : L = rs.map RI.oct) (hn : n = 4 ∨ n = 16)
    (hg : ∀ r ∈ rs, r.ok ∧ r.len ≤ roomOf n cs.length pm la pa a4) : PE wl fa cf (fxOf n o) aa ca (avOf la pa a4 cs pm) L := by
  obtain ⟨p1, p2, p3, ⟨g, p4'⟩, p5, p6', p7, p8⟩ := hp
  have hi : ∀ i, i < L.length → ∃ r ∈ rs, el L i = r.oct := fun i hi => by
    have hi' : i < rs.length := by rw [hL] at hi; simpa using hi
    exact ⟨rs[i], List.getElem_mem hi', el_map hL (List.getElem?_eq_getElem hi')⟩
  refine ⟨hF, p2, p3, (fun q => by rw [p4'] at q; cases q), p1, p5, p6', p7, fun i h => ?_, fun i h => ?_⟩
  · obtain ⟨r, _, e⟩ := hi i h
    rw [e]; simp [RI.oct]
  · obtain ⟨r, hr, e⟩ := hi i h
    have h1 := (hg r hr).1
    have h2 := (hg r hr).2
    have h3 := (RI.oct_len r h1).1
    rw [e, fxOf_len n o hn, avOf_len]
    unfold roomOf at h2
    omega

theorem store39 (w : World) (r : RI) (p4 p6 : Addr) : (storeCells ⟨w.heap.size, 0, none⟩ (r.outs p4 p6).toList).run Tryf.prog (w.alloc (.cells Z39 88)) = .ok () (w.alloc (.cells (r.outs p4 p6) 88)) := by
  exact run_storeCells_new (P := Tryf.prog) w 88 Z39 (r.outs p4 p6) (by kernel_rfl) rfl (by simp [RI.outs, Value.oneCell'])

theorem ls0 {wl : World} {c f a : Value} : LS wl c f a ((wl.alloc (.cells #[c, f, a, .slice none 0 0] 132)).alloc (.cells #[.pointer (some ⟨wl.heap.size, 0, none⟩), .slice none 0 0] 127)) (.slice none 0 0) (.slice none 0 0) (.slice none 0 0) (.slice none 0 0) [] [] [] [] := by
  have hb := boxed2 (w := wl) (T := 132) (U := 127) (xs := #[c, f, a, .slice none 0 0]) (ys := #[.pointer (some ⟨wl.heap.size, 0, none⟩), .slice none 0 0]) (Below.refl _ _)
  have hd : Dis (.slice none 0 0) (.slice none 0 0) := fun g e => by cases e
  exact ⟨((Below.refl _ _).alloc (Nat.le_refl _) _).alloc (by simp) _, by simp, hb.2, hb.1, OB.nil _ _ _, OB.nil _ _ _, GM.nil _ _ _, GM.nil _ _ _, hd, hd, hd, hd, hd, hd⟩

end Go.Proofs.Qxb6003713aFmt
