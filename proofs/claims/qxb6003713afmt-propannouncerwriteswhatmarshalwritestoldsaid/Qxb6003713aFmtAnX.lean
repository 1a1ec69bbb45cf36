import Derived.Test.Qxb6003713aFmtAnW
namespace Go.Proofs.Qxb6003713aFmt
open Go.RowKit
set_option linter.unusedVariables false
set_option linter.unusedSimpArgs false

/-- What was got and its copies, the packer done. -/
structure LG (wl W : World) (g s : Value) (Mg Ms : List (List UInt8)) : Prop where
  below : Below wl.heap.size wl W
  size : wl.heap.size + 2 ≤ W.heap.size
  hg : GM (wl.heap.size + 2) W (MM (.slice none 0 0) (.slice none 0 0) g s) g Mg
  hs : GM (wl.heap.size + 2) W (MM (.slice none 0 0) (.slice none 0 0) g s) s Ms
  d6 : Dis g s
section
variable {wl : World} {c f a : Value} {W W' : World} {v nv g s : Value} {cu l : List UInt8} {Mg Ms : List (List UInt8)}
theorem MM.less {b : Nat} (h : MM (.slice none 0 0) (.slice none 0 0) g s b) : MM v nv g s b := by
  rcases h with q | q | q | q
  · cases q
  · cases q
  · exact .inr (.inr (.inl q))
  · exact .inr (.inr (.inr q))
theorem LG.of (h : LS wl c f a W v nv g s cu l Mg Ms) (hk : Kept W W' (fun k => k = wl.heap.size)) : LG wl W' g s Mg Ms :=
  ⟨h.below.trans (hk.below h.below.size (fun i q => by have : i = wl.heap.size := q; omega)), Nat.le_trans h.size hk.size,
    h.hg.step hk (fun b e q => by have := (h.hg.lt b e).1; have : b = wl.heap.size := q; omega) (fun b hB _ q => by have : b = wl.heap.size := q; omega) (fun _ _ _ q => MM.less q),
    h.hs.step hk (fun b e q => by have := (h.hs.lt b e).1; have : b = wl.heap.size := q; omega) (fun b hB _ q => by have : b = wl.heap.size := q; omega) (fun _ _ _ q => MM.less q), h.d6⟩
theorem LG.later (h : LG wl W g s Mg Ms) (hb : Below W.heap.size W W') : LG wl W' g s Mg Ms := by
  have hk := Kept.ofAll hb (fun _ => False)
  exact ⟨h.below.trans (hb.mono h.below.size), Nat.le_trans h.size hb.size, h.hg.step hk (fun _ _ q => q) (fun _ _ _ q => q.elim) (fun _ _ _ q => q), h.hs.step hk (fun _ _ q => q) (fun _ _ _ q => q.elim) (fun _ _ _ q => q), h.d6⟩
theorem LG.fresh (h : LG wl W g s Mg Ms) {b : Nat} (hb : W.heap.size ≤ b) : ¬ MM (.slice none 0 0) (.slice none 0 0) g s b := fun q => by
  rcases q with q | q | q | q
  · cases q
  · cases q
  · have := (h.hg.lt b q).2; omega
  · have := (h.hs.lt b q).2; omega
theorem LG.pushg (h : LG wl W g s Mg Ms) : ∃ xs, W.ownsRow (wl.heap.size + 2) 23 1 g Mg.length xs ∧
    ∀ (o : Obj) (g' : Value) (W' : World) (m : List UInt8) (b n q : Nat), W'.ownsRow (wl.heap.size + 2) 23 1 g' (Mg.length + 1) (xs ++ [.slice (some ⟨b, 0, none⟩) n q]) → Ext (W.alloc o) W' g g' → View W (some ⟨b, 0, none⟩) (bc m) → m.length = n → wl.heap.size + 2 ≤ b → b < W.heap.size → ¬ MM (.slice none 0 0) (.slice none 0 0) g s b → LG wl W' g' s (Mg ++ [m]) Ms := by
  obtain ⟨xs, h1, hp⟩ := h.hg.push (fun b e => .inr (.inr (.inl e)))
  refine ⟨xs, h1, fun o g' W' m b n q hown hext hV hn hB hb hm => ?_⟩
  have hx := hext.of_alloc
  have hk := Kept.ofExt hx
  have hl : Lies W g g' := hx.lies
  have hM : ∀ b, wl.heap.size + 2 ≤ b → b < W.heap.size → MM (.slice none 0 0) (.slice none 0 0) g' s b → MM (.slice none 0 0) (.slice none 0 0) g s b := fun b _ hb q => by
    rcases q with q | q | q | q
    · cases q
    · cases q
    · exact .inr (.inr (.inl (hl.old hb q)))
    · exact .inr (.inr (.inr q))
  exact ⟨h.below.trans (hk.below h.below.size (fun i e => by have := (h.hg.lt i e).1; omega)), Nat.le_trans h.size hk.size, hp o g' W' _ m b n q hown hext hV hn hB hb hm hM, h.hs.step hk (fun b e q => h.d6 b q e) (fun b _ _ q => .inr (.inr (.inl q))) hM, h.d6.step hl (fun b e => (h.hs.lt b e).2)⟩
theorem LG.pushs (h : LG wl W g s Mg Ms) : ∃ xs, W.ownsRow (wl.heap.size + 2) 23 1 s Ms.length xs ∧
    ∀ (o : Obj) (s' : Value) (W' : World) (m : List UInt8) (b n q : Nat), W'.ownsRow (wl.heap.size + 2) 23 1 s' (Ms.length + 1) (xs ++ [.slice (some ⟨b, 0, none⟩) n q]) → Ext (W.alloc o) W' s s' → View W (some ⟨b, 0, none⟩) (bc m) → m.length = n → wl.heap.size + 2 ≤ b → b < W.heap.size → ¬ MM (.slice none 0 0) (.slice none 0 0) g s b → LG wl W' g s' Mg (Ms ++ [m]) := by
  obtain ⟨xs, h1, hp⟩ := h.hs.push (fun b e => .inr (.inr (.inr e)))
  refine ⟨xs, h1, fun o s' W' m b n q hown hext hV hn hB hb hm => ?_⟩
  have hx := hext.of_alloc
  have hk := Kept.ofExt hx
  have hl : Lies W s s' := hx.lies
  have hM : ∀ b, wl.heap.size + 2 ≤ b → b < W.heap.size → MM (.slice none 0 0) (.slice none 0 0) g s' b → MM (.slice none 0 0) (.slice none 0 0) g s b := fun b _ hb q => by
    rcases q with q | q | q | q
    · cases q
    · cases q
    · exact .inr (.inr (.inl q))
    · exact .inr (.inr (.inr (hl.old hb q)))
  exact ⟨h.below.trans (hk.below h.below.size (fun i e => by have := (h.hs.lt i e).1; omega)), Nat.le_trans h.size hk.size, h.hg.step hk (fun b e q => h.d6 b e q) (fun b _ _ q => .inr (.inr (.inr q))) hM, hp o s' W' _ m b n q hown hext hV hn hB hb hm hM, (h.d6.symm.step hl (fun b e => (h.hg.lt b e).2)).symm⟩
end

/-- The cells of an NLRI. -/
def RI.nls (r : RI) (p4 p6 : Addr) : Array Value := #[.int .u8 r.ty, .int .u8 (r.rd 0).toNat, .int .u8 (r.rd 1).toNat, .int .u8 (r.rd 2).toNat, .int .u8 (r.rd 3).toNat, .int .u8 (r.rd 4).toNat, .int .u8 (r.rd 5).toNat, .int .u8 (r.rd 6).toNat, .int .u8 (r.rd 7).toNat, .int .u8 (r.es 0).toNat, .int .u8 (r.es 1).toNat, .int .u8 (r.es 2).toNat, .int .u8 (r.es 3).toNat, .int .u8 (r.es 4).toNat, .int .u8 (r.es 5).toNat, .int .u8 (r.es 6).toNat, .int .u8 (r.es 7).toNat, .int .u8 (r.es 8).toNat, .int .u8 (r.es 9).toNat, .int .u32 r.tag, .int .u8 (r.mac 0).toNat, .int .u8 (r.mac 1).toNat, .int .u8 (r.mac 2).toNat, .int .u8 (r.mac 3).toNat, .int .u8 (r.mac 4).toNat, .int .u8 (r.mac 5).toNat, .int .u64 (aHi r.n r.ip : Nat), .int .u64 (aLo r.n r.ip : Nat), .pointer (aZ p4 p6 r.n), .int .u64 0, .int .u64 0, .pointer none, .int .u8 0, .int .u64 0, .int .u64 0, .pointer none, .int .u32 r.l1, .int .u32 r.l2, .bool r.h2, .bool false, .int .u8 0, .int .i64 0]
theorem info98 : (Tryf.prog.info? 98).map (fun i => (i.zero, i.size, i.bytes)) = some (some (.agg #[.int .u8 0, .int .u8 0, .int .u8 0, .int .u8 0, .int .u8 0, .int .u8 0, .int .u8 0, .int .u8 0, .int .u8 0, .int .u8 0, .int .u8 0, .int .u8 0, .int .u8 0, .int .u8 0, .int .u8 0, .int .u8 0, .int .u8 0, .int .u8 0, .int .u8 0, .int .u32 0, .int .u8 0, .int .u8 0, .int .u8 0, .int .u8 0, .int .u8 0, .int .u8 0, .int .u64 0, .int .u64 0, .pointer none, .int .u64 0, .int .u64 0, .pointer none, .int .u8 0, .int .u64 0, .int .u64 0, .pointer none, .int .u32 0, .int .u32 0, .bool false, .bool false, .int .u8 0, .int .i64 0]), 42, 144) := by kernel_rfl
theorem Src.nl (w : World) (r : RI) (p4 p6 : Addr) : Src Tryf.prog 42 93 (.slice (some ⟨w.heap.size, 0, none⟩) 1 1) 1 (r.nls p4 p6).toList (w.alloc (.cells (r.nls p4 p6) 98)) :=
  Src.ofSlice (w.alloc (.cells (r.nls p4 p6) 98)) Tryf.underlying93 ⟨w.heap.size, 0, none⟩ 1 1 (r.nls p4 p6).toList rfl (fun j u hu => by
    rw [Addr.add_lit, World.cell?_alloc_mark]
    simpa using hu) (fun u hu => by
    have h : (r.nls p4 p6).all (·.oneCell') = true := by simp [RI.nls, Value.oneCell']
    exact (Array.all_eq_true_iff_forall_mem.1 h) u (by simpa using hu))
def nlFlat (rs : List RI) (p4 p6 : Addr) : List Value := rs.flatMap fun r => (r.nls p4 p6).toList
theorem nlFlat_take {rs : List RI} {k : Nat} {r : RI} {p4 p6 : Addr} (hk : rs[k]? = some r) : nlFlat (rs.take (k + 1)) p4 p6 = nlFlat (rs.take k) p4 p6 ++ (r.nls p4 p6).toList := by
  obtain ⟨hk', rfl⟩ := List.getElem?_eq_some_iff.1 hk
  unfold nlFlat
  rw [List.take_succ_eq_append_getElem hk', List.flatMap_append]
  simp
theorem nlFlat_at {p4 p6 : Addr} : ∀ (rs : List RI) (i : Nat) (r : RI), rs[i]? = some r → ∀ j, j < 42 → (nlFlat rs p4 p6)[i * 42 + j]? = (r.nls p4 p6)[j]?
  | [], i, r, h => by simp at h
  | q :: rs, 0, r, h => by
    intro j hj
    simp only [List.getElem?_cons_zero, Option.some.injEq] at h
    subst h
    have hl : (q.nls p4 p6).toList.length = 42 := rfl
    show ((q.nls p4 p6).toList ++ nlFlat rs p4 p6)[0 * 42 + j]? = _
    rw [List.getElem?_append_left (by omega)]
    simp
  | q :: rs, i + 1, r, h => by
    intro j hj
    have hl : (q.nls p4 p6).toList.length = 42 := rfl
    show ((q.nls p4 p6).toList ++ nlFlat rs p4 p6)[(i + 1) * 42 + j]? = _
    rw [List.getElem?_append_right (by omega), hl]
    have := nlFlat_at (p4 := p4) (p6 := p6) rs i r (by simpa using h) j hj
    rw [← this]
    congr 1
    omega
theorem nv_of {B : Nat} {w : World} {v : Value} {rs : List RI} {p4 p6 : Addr} (h : w.ownsRow B 98 42 v rs.length (nlFlat rs p4 p6)) : ∃ na nc, v = .slice na rs.length nc ∧ NV w na rs p4 p6 := by
  have hc := fun (g : Nat) (e : v.ownBlock = some g) => World.ownsRow.cells h (g := g) e
  have hlt := World.ownsRow.lt h
  rcases h.2 with hn | ⟨g, cap, cur, rfl, hb, hgg, rest⟩
  · obtain ⟨h1, h2⟩ := hn
    subst h1
    have : rs = [] := by
      cases rs with
      | nil => rfl
      | cons q rs => simp at h2
    subst this
    exact ⟨none, 0, rfl, .inl rfl⟩
  · refine ⟨some ⟨g, 0, none⟩, cap, rfl, .inr ⟨g, 0, rfl, fun i r hi => ?_⟩⟩
    have hg := (hlt g rfl).2
    have hcell : ∀ j, j < 42 → w.cell? ⟨g, 0 + i * 42 + j, none⟩ = (r.nls p4 p6)[j]? := fun j hj => by
      have h1 := nlFlat_at (p4 := p4) (p6 := p6) rs i r hi j hj
      have h2 : (r.nls p4 p6)[j]? = some ((r.nls p4 p6)[j]'(by show j < 42; exact hj)) := Array.getElem?_eq_getElem _
      rw [h2] at h1 ⊢
      have h3 := hc g rfl _ _ h1
      rw [Addr.add_lit] at h3
      simpa using h3
    refine ⟨⟨hg, fun k hk => ?_⟩, ?_⟩
    · have hk' : k < 39 := hk
      rw [hcell k (by omega)]
      have : (r.nls p4 p6)[k]? = (r.outs p4 p6)[k]? := by
        match k, hk' with
        | 0, _ => rfl
        | 1, _ => rfl
        | 2, _ => rfl
        | 3, _ => rfl
        | 4, _ => rfl
        | 5, _ => rfl
        | 6, _ => rfl
        | 7, _ => rfl
        | 8, _ => rfl
        | 9, _ => rfl
        | 10, _ => rfl
        | 11, _ => rfl
        | 12, _ => rfl
        | 13, _ => rfl
        | 14, _ => rfl
        | 15, _ => rfl
        | 16, _ => rfl
        | 17, _ => rfl
        | 18, _ => rfl
        | 19, _ => rfl
        | 20, _ => rfl
        | 21, _ => rfl
        | 22, _ => rfl
        | 23, _ => rfl
        | 24, _ => rfl
        | 25, _ => rfl
        | 26, _ => rfl
        | 27, _ => rfl
        | 28, _ => rfl
        | 29, _ => rfl
        | 30, _ => rfl
        | 31, _ => rfl
        | 32, _ => rfl
        | 33, _ => rfl
        | 34, _ => rfl
        | 35, _ => rfl
        | 36, _ => rfl
        | 37, _ => rfl
        | 38, _ => rfl
        | k + 39, h => exact absurd h (by omega)
      exact this
    · have := hcell 39 (by omega)
      simpa [RI.nls] using this

theorem below_drewN {B : Nat} {w w' : World} (h : Below B w w') (n : Nat) : Below B w (w'.drewN n) := ⟨h.os, h.tape, h.output, h.size, h.block⟩
theorem ms_count (n la pa : Nat) (a4 : Bool) (o : Nat → UInt8) (cs : List (Nat → UInt8)) (pm : Option PI) (L : List (List UInt8)) : (msOf n la pa a4 o cs pm L).length ≤ L.length + 1 := by
  unfold msOf groups
  have := gr_le ((fxOf n o).length + (avOf la pa a4 cs pm).length) L L.length
  rw [List.length_map]
  split
  · omega
  · rw [List.length_append]; simp; omega
theorem four {a b c d e f : Prop} (h : a ∧ b ∧ c ∧ d ∧ e ∧ f) : a ∧ b ∧ c ∧ d := ⟨h.1, h.2.1, h.2.2.1, h.2.2.2.1⟩
theorem gr_fits {F : Nat} {L : List (List UInt8)} (hfit : ∀ i, i < L.length → F + (el L i).length ≤ 4069) : ∀ i, i ≤ L.length → ∀ x ∈ gr F L i, F + x.length ≤ 4069
  | 0, _, x, hx => by simp [gr] at hx
  | i + 1, hi, x, hx => by
    have ih := gr_fits hfit i (by omega)
    have hc := cur_fits (F := F) (L := L) (.inl (by have := hfit i (by omega); omega)) hfit i (by omega) (by omega)
    by_cases hf : 4069 < F + (cur F L i).length + (el L i).length
    · rw [(cur_flush (by omega) hf).2.1] at hx
      rcases List.mem_append.1 hx with h | h
      · exact ih x h
      · rw [List.mem_singleton] at h
        rw [h]; exact hc
    · rw [(cur_stay (by omega) hf).2.1] at hx
      exact ih x hx
theorem ms_len {n la pa : Nat} {a4 : Bool} {o : Nat → UInt8} {cs : List (Nat → UInt8)} {pm : Option PI} {L : List (List UInt8)} (hfit : ∀ i, i < L.length → ((fxOf n o).length + (avOf la pa a4 cs pm).length) + (el L i).length ≤ 4069) (j : Nat) : (el (msOf n la pa a4 o cs pm L) j).length ≤ 2000000000 := by
  by_cases hj : j < (msOf n la pa a4 o cs pm L).length
  · have hmem : el (msOf n la pa a4 o cs pm L) j ∈ msOf n la pa a4 o cs pm L := by
      simp only [el, List.getD, List.getElem?_eq_getElem hj, Option.getD_some]
      exact List.getElem_mem hj
    generalize el (msOf n la pa a4 o cs pm L) j = x at hmem ⊢
    unfold msOf at hmem
    obtain ⟨g, hg, rfl⟩ := List.mem_map.1 hmem
    have hl := upd_len (flagOf 14) (14 : Nat) (fxOf n o) g (avOf la pa a4 cs pm)
    have hgl : ((fxOf n o).length + (avOf la pa a4 cs pm).length) + g.length ≤ 4069 := by
      unfold groups at hg
      split at hg
      · exact gr_fits hfit _ (Nat.le_refl _) g hg
      · rename_i hne
        rcases List.mem_append.1 hg with h | h
        · exact gr_fits hfit _ (Nat.le_refl _) g h
        · rw [List.mem_singleton] at h
          rw [h]
          by_cases h0 : L.length = 0
          · exact absurd (by rw [h0]; exact cur_zero _ _) hne
          · exact cur_fits (.inl (by have := hfit 0 (by omega); omega)) hfit _ (Nat.le_refl _) (by omega)
    omega
  · simp [el, List.getD, List.getElem?_eq_none (Nat.le_of_not_lt hj)]

end Go.Proofs.Qxb6003713aFmt
