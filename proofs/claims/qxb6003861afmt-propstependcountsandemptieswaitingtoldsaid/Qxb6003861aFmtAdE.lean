import Derived.Test.Qxb6003861aFmtAdD
namespace Go.Proofs.Qxb6003861aFmt
open Go.RowKit
set_option linter.unusedVariables false
set_option linter.unusedSimpArgs false
variable {B : Nat}

def IsI (u : Value) : Prop := ∃ z, u = .int .i64 z
theorem IsI.one {u : Value} (h : IsI u) : u.oneCell' = true := by obtain ⟨z, rfl⟩ := h; rfl
/-- A block of integers of kind T. -/
def IB (T : TypeId) (n : Nat) (o : Option Obj) : Prop := ∃ cur : Array Value, o = some (.cells cur T (0, 0)) ∧ cur.size = n ∧ ∀ u ∈ cur.toList, IsI u
def Soft (B k : Nat) (S : Bool) (a b : Option Obj) : Prop := B ≤ k ∧ ((S = true ∧ ∃ c c', a = some (.cells c 66 (0, 0)) ∧ b = some (.cells c' 66 (0, 0))) ∨ ∃ T n, (T = 76 ∨ T = 47) ∧ IB T n a ∧ IB T n b)
theorem IB.det {T T' : TypeId} {n n' : Nat} {o : Option Obj} (h : IB T n o) (k : IB T' n' o) : T = T' ∧ n = n' := by
  obtain ⟨c, rfl, hn, _⟩ := h
  obtain ⟨c', he, hn', _⟩ := k
  cases he
  exact ⟨rfl, hn.symm.trans hn'⟩
theorem Soft.trans {j : Nat} {S : Bool} {a b c : Option Obj} (h : Soft B j S a b) (k : Soft B j S b c) : Soft B j S a c := by
  obtain ⟨hb, h⟩ := h
  obtain ⟨_, k⟩ := k
  refine ⟨hb, ?_⟩
  rcases h with ⟨hs, x, y, rfl, rfl⟩ | ⟨T, n, hT, h1, h2⟩
  · rcases k with ⟨_, x', y', he, rfl⟩ | ⟨T, n, hT, k1, k2⟩
    · exact .inl ⟨hs, x, y', rfl, rfl⟩
    · obtain ⟨cur, he, _⟩ := k1
      cases he
      rcases hT with h | h <;> cases h
  · rcases k with ⟨_, x', y', rfl, rfl⟩ | ⟨T', n', hT', k1, k2⟩
    · obtain ⟨cur, he, _⟩ := h2
      cases he
      rcases hT with h | h <;> cases h
    · obtain ⟨rfl, rfl⟩ := h2.det k1
      exact .inr ⟨T, n, hT, h1, k2⟩
/-- The frame: but for X and for rows of integers of the two kinds all is as it was. -/
structure Tame (B : Nat) (S : Bool) (w w' : World) (X : Nat → Prop) : Prop where
  os : w'.os = w.os
  tape : w'.tape = w.tape
  output : w'.output = w.output
  size : w.heap.size ≤ w'.heap.size
  block : ∀ k, k < w.heap.size → ¬ X k → w'.heap[k]? = w.heap[k]? ∨ Soft B k S w.heap[k]? w'.heap[k]?

theorem Tame.refl (S : Bool) (w : World) (X : Nat → Prop) : Tame B S w w X := ⟨rfl, rfl, rfl, Nat.le_refl _, fun _ _ _ => .inl rfl⟩
theorem Tame.next {S : Bool} {a b c : World} {X Y : Nat → Prop} (h : Tame B S a b X) (k : Tame B S b c Y) (hxy : ∀ i, i < a.heap.size → Y i → X i) : Tame B S a c X := by
  refine ⟨k.os.trans h.os, k.tape.trans h.tape, k.output.trans h.output, Nat.le_trans h.size k.size, fun i hi hx => ?_⟩
  have h1 := h.block i hi hx
  have h2 := k.block i (Nat.lt_of_lt_of_le hi h.size) (fun q => hx (hxy i hi q))
  rcases h2 with h2 | h2
  · rw [h2]; exact h1
  · rcases h1 with h1 | h1
    · rw [h1] at h2; exact .inr h2
    · exact .inr (h1.trans h2)
theorem Tame.trans {S : Bool} {a b c : World} {X : Nat → Prop} (h : Tame B S a b X) (k : Tame B S b c X) : Tame B S a c X := h.next k fun _ _ q => q
theorem Tame.mono {S : Bool} {a b : World} {X Y : Nat → Prop} (h : Tame B S a b X) (hxy : ∀ i, i < a.heap.size → X i → Y i) : Tame B S a b Y :=
  ⟨h.os, h.tape, h.output, h.size, fun i hi hy => h.block i hi (fun q => hy (hxy i hi q))⟩
theorem Tame.up {a b : World} {X : Nat → Prop} (h : Tame B false a b X) (S : Bool) : Tame B S a b X := by
  refine ⟨h.os, h.tape, h.output, h.size, fun i hi hy => ?_⟩
  rcases h.block i hi hy with q | ⟨hb, q⟩
  · exact .inl q
  · refine .inr ⟨hb, ?_⟩
    rcases q with ⟨q, _⟩ | q
    · cases q
    · exact .inr q
theorem Tame.ofKept {S : Bool} {a b : World} {X : Nat → Prop} (h : Kept a b X) : Tame B S a b X := ⟨h.os, h.tape, h.output, h.size, fun i hi hx => .inl (h.block i hi hx)⟩
theorem Tame.drew {S : Bool} {a b : World} {X : Nat → Prop} (h : Tame B S a b X) : Tame B S a b.drew X := ⟨h.os, h.tape, h.output, h.size, h.block⟩
theorem Tame.drewN {S : Bool} {a b : World} {X : Nat → Prop} (h : Tame B S a b X) (n : Nat) : Tame B S a (b.drewN n) X := ⟨h.os, h.tape, h.output, h.size, h.block⟩
theorem Tame.alloc {S : Bool} {a b : World} {X : Nat → Prop} (h : Tame B S a b X) (o : Obj) : Tame B S a (b.alloc o) X :=
  h.trans (Tame.ofKept ((Kept.refl b X).alloc o))
theorem Tame.set {S : Bool} {w w' : World} {X : Nat → Prop} (h : Tame B S w w' X) {pb k : Nat} (hX : X pb ∨ w.heap.size ≤ pb) (v : Value) : Tame B S w (w'.setCell ⟨pb, k, none⟩ v) X := by
  refine h.next (Tame.ofKept ((Kept.refl w' (fun i => i = pb)).set (.inl rfl) v)) ?_
  rintro i hi rfl
  rcases hX with q | q
  · exact q
  · omega
/-- One row of integers is written. -/
theorem Tame.row {S : Bool} {a b : World} {X : Nat → Prop} {g : Nat} {T : TypeId} {n : Nat} (hb : B ≤ g) (h : Kept a b (fun k => k = g)) (hT : T = 76 ∨ T = 47) (h1 : IB T n a.heap[g]?) (h2 : IB T n b.heap[g]?) : Tame B S a b X :=
  ⟨h.os, h.tape, h.output, h.size, fun i hi hx => by
    by_cases e : i = g
    · subst e; exact .inr ⟨hb, .inr ⟨T, n, hT, h1, h2⟩⟩
    · exact .inl (h.block i hi e)⟩
theorem Tame.kept {a b : World} {S : Bool} {X : Nat → Prop} (h : Tame B S a b X) : Kept a b (fun k => X k ∨ ∃ c T, a.heap[k]? = some (.cells c T (0, 0)) ∧ (T = 66 ∨ T = 76 ∨ T = 47)) :=
  ⟨h.os, h.tape, h.output, h.size, fun i hi hx => by
    rcases h.block i hi (fun q => hx (.inl q)) with q | ⟨_, ⟨_, c, c', q, _⟩ | ⟨T, n, hT, ⟨c, q, _⟩, _⟩⟩
    · exact q
    · exact absurd (.inr ⟨c, 66, q, .inl rfl⟩) hx
    · exact absurd (.inr ⟨c, T, q, .inr hT⟩) hx⟩
def Hard (S : Bool) (T : TypeId) : Prop := ¬ T = 76 ∧ ¬ T = 47 ∧ (S = true → ¬ T = 66)
theorem Blk.tame {S : Bool} {w w' : World} {X : Nat → Prop} {g : Nat} {T : TypeId} {xs : Array Value} (h : Blk w g T xs) (k : Tame B S w w' X) (hX : ¬ X g) (hT : Hard S T) : Blk w' g T xs := by
  have hb : w.heap[g]? = some (.cells xs T (0, 0)) := h
  rcases k.block g h.lt hX with q | ⟨_, ⟨hs, c, c', q, _⟩ | ⟨T', n, hT', ⟨c, q, _⟩, _⟩⟩
  · exact q.trans hb
  · rw [hb] at q; cases q; exact absurd rfl (hT.2.2 hs)
  · rw [hb] at q; cases q
    rcases hT' with q | q
    · exact absurd q hT.1
    · exact absurd q hT.2.1
/-- A row of integers that some slice value shows. -/
def IR (B : Nat) (T : TypeId) (sz : Nat) (w : World) (v : Value) (n : Nat) : Prop :=
  (v = .slice none 0 0 ∧ n = 0) ∨ ∃ g cap, v = .slice (some ⟨g, 0, none⟩) n cap ∧ n ≤ cap ∧ (cap ≤ maxLen ∧ B ≤ g) ∧ IB T (cap * sz) w.heap[g]?
def NotT (w : World) (g : Nat) (T : TypeId) : Prop := ∀ cur, w.heap[g]? ≠ some (.cells cur T (0, 0))
theorem Blk.notT {w : World} {g : Nat} {T T' : TypeId} {xs : Array Value} (h : Blk w g T xs) (hT : T ≠ T') : NotT w g T' := fun cur q => by
  have hb : w.heap[g]? = some (.cells xs T (0, 0)) := h
  rw [hb] at q
  cases q
  exact hT rfl
theorem IR.tame {S : Bool} {w w' : World} {X : Nat → Prop} {T : TypeId} {sz : Nat} {v : Value} {n : Nat} (hT : T = 76 ∨ T = 47) (h : IR B T sz w v n) (k : Tame B S w w' X) (hX : ∀ g, X g → NotT w g T) : IR B T sz w' v n := by
  rcases h with h | ⟨g, cap, rfl, h1, h2, h3⟩
  · exact .inl h
  · refine .inr ⟨g, cap, rfl, h1, h2, ?_⟩
    obtain ⟨cur, hg, hs, hi⟩ := h3
    have hlt : g < w.heap.size := (Array.getElem?_eq_some_iff.1 hg).1
    rcases k.block g hlt (fun q => hX g q cur hg) with q | ⟨_, ⟨hs', c, c', q, _⟩ | ⟨T', n', hT', hq, hq2⟩⟩
    · exact ⟨cur, q.trans hg, hs, hi⟩
    · rw [hg] at q; cases q; rcases hT with e | e <;> cases e
    · obtain ⟨rfl, rfl⟩ := hq.det ⟨cur, hg, hs, hi⟩
      exact hq2
theorem IR.kept {w w' : World} {X : Nat → Prop} {T : TypeId} {sz : Nat} {v : Value} {n : Nat} (h : IR B T sz w v n) (k : Kept w w' X) (hX : ∀ g, X g → NotT w g T) : IR B T sz w' v n := by
  rcases h with h | ⟨g, cap, rfl, h1, h2, cur, hg, hs, hi⟩
  · exact .inl h
  · exact .inr ⟨g, cap, rfl, h1, h2, cur, (k.block g (Array.getElem?_eq_some_iff.1 hg).1 (fun q => hX g q cur hg)).trans hg, hs, hi⟩
/-- The cells that are shown. -/
theorem IR.cells {T : TypeId} {sz : Nat} {w : World} {v : Value} {n : Nat} (h : IR B T sz w v n) (hn : 0 < n) : ∃ g cap, v = .slice (some ⟨g, 0, none⟩) n cap ∧ n ≤ cap ∧ g < w.heap.size ∧ (∀ k, w.frozen? ⟨g, k, none⟩ = false) ∧ ∀ k, k < n * sz → ∃ z, w.cell? ⟨g, k, none⟩ = some (.int .i64 z) := by
  rcases h with ⟨_, h⟩ | ⟨g, cap, rfl, h1, h2, cur, hg, hs, hi⟩
  · omega
  · have hB : Blk w g T cur := hg
    refine ⟨g, cap, rfl, h1, hB.lt, hB.frozen, fun k hk => ?_⟩
    have hk2 : k < cur.size := by rw [hs]; exact Nat.lt_of_lt_of_le hk (Nat.mul_le_mul_right _ h1)
    obtain ⟨z, hz⟩ := hi cur[k] (by simp)
    exact ⟨z, by rw [hB.cell]; simp [hk2, hz]⟩
/-- Fewer of it. -/
theorem IR.cut {T : TypeId} {sz : Nat} {w : World} {g n cap m : Nat} (h : IR B T sz w (.slice (some ⟨g, 0, none⟩) n cap) n) (hm : m ≤ n) : IR B T sz w (.slice (some ⟨g, 0, none⟩) m cap) m := by
  rcases h with ⟨h, _⟩ | ⟨g', cap', he, h1, h2, h3⟩
  · cases h
  · cases he
    exact .inr ⟨g, cap, rfl, by omega, h2, h3⟩
theorem zeroCells_ints (z : Array Value) (hz : ∀ u ∈ z.toList, IsI u) (k : Nat) : ∀ u ∈ (Builtin.zeroCells z k).toList, IsI u := by
  intro u hu
  simp only [Builtin.zeroCells, Array.toList_map, Array.toList_range, List.mem_map, List.mem_range] at hu
  obtain ⟨i, hi, rfl⟩ := hu
  have hs : 0 < z.size := by
    rcases Nat.eq_zero_or_pos z.size with h | h
    · rw [h, Nat.mul_zero] at hi; omega
    · exact h
  have hlt : i % z.size < z.size := Nat.mod_lt _ hs
  rw [getElem!_pos z (i % z.size) hlt]
  exact hz _ (by simp)

/-- 'append' of integers onto such a row. -/
theorem run_append_ints {P : Program} (w : World) (t tx ty e : TypeId) (i : TypeInfo) (z : Value) (size bytes : Nat) (ht : P.underlying t = some (.slice e)) (hi : P.info? e = some i) (hz : i.zero = some z)
    (hsize : i.size = size) (hby : i.bytes = bytes) (hzs : z.cells.size = size) (hzi : ∀ u ∈ z.cells.toList, IsI u) (hT : e = 76 ∨ e = 47)
    (v : Value) (n : Nat) (h : IR B e size w v n) (x : Value) (m : Nat) (news : List Value) (hs : Src P size tx x m news w) (hni : ∀ u ∈ news, IsI u)
    (hBw : B ≤ w.heap.size) (h63 : n + m ≤ maxLen) (hbytes : (n + m) * bytes ≤ 140737488355328) :
    ∃ v' w', (Builtin.append_ #[t, tx] ty #[v, x]).run P w = .ok v' w' ∧ IR B e size w' v' (n + m) ∧ Tame B false w w' (fun _ => False) ∧ w.heap.size ≤ w'.heap.size := by
  subst hsize
  subst hby
  have hsmall : n + m ≤ 9223372036854775807 := by simp only [maxLen] at h63; omega
  have grown : ∀ (old : Nat) (xs : List Value), old < n + m → xs.length = n * i.size → (∀ u ∈ xs, IsI u) →
      IR B e i.size (w.drew.alloc (.cells ((xs ++ news).toArray ++ Builtin.zeroCells z.cells (grownCap w (n + m) old e - (n + m))) e)) (.slice (some ⟨w.heap.size, 0, none⟩) (n + m) (grownCap w (n + m) old e)) (n + m) ∧
      Tame B false w (w.drew.alloc (.cells ((xs ++ news).toArray ++ Builtin.zeroCells z.cells (grownCap w (n + m) old e - (n + m))) e)) (fun _ => False) := by
    intro old xs ho hx hxi
    have hge := grownCap_ge w (n + m) old e
    have hcm : grownCap w (n + m) old e ≤ maxLen := grownCap_le_maxLen w (n + m) old e h63
    refine ⟨.inr ⟨w.heap.size, _, rfl, hge, ⟨hcm, hBw⟩, _, heap_alloc_new w.drew _, ?_, ?_⟩, ((Tame.refl false w _).drew).alloc _⟩
    · simp only [Array.size_append, List.size_toArray, size_zeroCells, hzs, List.length_append, hx, hs.newsLen, ← Nat.add_mul]
      congr 1
      omega
    · intro u hu
      simp only [Array.toList_append, List.mem_append] at hu
      rcases hu with (hu | hu) | hu
      · exact hxi u hu
      · exact hni u hu
      · exact zeroCells_ints _ hzi _ u hu
  rcases h with ⟨rfl, rfl⟩ | ⟨g, cap, rfl, hnc, hcm, cur, hg, hcs, hci⟩
  · by_cases hm : m = 0
    · subst hm
      have hn : news = [] := List.eq_nil_of_length_eq_zero (by simpa using hs.newsLen)
      subst hn
      refine ⟨.slice none 0 0, w, ?_, .inl ⟨rfl, rfl⟩, Tame.refl _ _ _, Nat.le_refl _⟩
      rcases hs.kind with ⟨e', hk⟩ | hk <;> simp [Builtin.append_, run_underlying ht, run_underlying hk, sizeOf, typeInfo, hi, hs.len, hs.cells]
    · have hold : (Builtin.firstCells i.size 0 (.slice none 0 0)).run P w.drew = .ok ([] : List Value).toArray w.drew := run_firstCells_none w.drew i.size 0 0 0
      have hr := run_append_grow_src (P := P) w t tx ty e i z ht hi hz none 0 0 [] hold x m news hs (by omega) (by omega) (growslice_fits (by omega) hbytes)
      have hgr := grown 0 [] (by omega) (by simp) (fun u hu => by cases hu)
      exact ⟨_, _, hr, hgr.1, hgr.2, by simp⟩
  · by_cases hroom : n + m ≤ cap
    · have hfit : n * i.size + news.length ≤ cur.size := by rw [hs.newsLen, hcs, ← Nat.add_mul]; exact Nat.mul_le_mul_right _ hroom
      have hst := run_storeCells_at P g (n * i.size) e news 0 cur w hg (by simpa using hfit) hs.one
      simp only [Nat.add_zero] at hst
      have hr : (Builtin.append_ #[t, tx] ty #[.slice (some ⟨g, 0, none⟩) n cap, x]).run P w = .ok (.slice (some ⟨g, 0, none⟩) (n + m) cap) (w.setRow g (cur.toList.take (n * i.size) ++ news ++ cur.toList.drop (n * i.size + news.length)).toArray) := by
        rcases hs.kind with ⟨e', hk⟩ | hk <;> simp [Builtin.append_, run_underlying ht, run_underlying hk, sizeOf, typeInfo, hi, hs.len, hroom, hs.cells, Addr.add_lit, hst]
      have hB : IB e (cap * i.size) (w.setRow g (cur.toList.take (n * i.size) ++ news ++ cur.toList.drop (n * i.size + news.length)).toArray).heap[g]? := by
        refine ⟨_, setRow_heap w g cur _ e _ hg, ?_, ?_⟩
        · simp only [List.size_toArray, List.length_append, List.length_take, List.length_drop, Array.length_toList]
          omega
        · intro u hu
          simp only [List.mem_append] at hu
          rcases hu with (hu | hu) | hu
          · exact hci u (List.mem_of_mem_take hu)
          · exact hni u hu
          · exact hci u (List.mem_of_mem_drop hu)
      refine ⟨_, _, hr, .inr ⟨g, cap, rfl, hroom, hcm, hB⟩, Tame.row (g := g) hcm.2 ⟨rfl, rfl, rfl, by simp, fun k _ hk => setRow_other w g k _ hk⟩ hT ⟨cur, hg, hcs, hci⟩ hB, by simp⟩
    · have hxl : (cur.toList.take (n * i.size)).length = n * i.size := by
        rw [List.length_take, Array.length_toList, hcs]
        exact Nat.min_eq_left (Nat.mul_le_mul_right _ hnc)
      have holds : ∀ j u, (cur.toList.take (n * i.size))[j]? = some u → w.drew.cell? ((⟨g, 0, none⟩ : Addr).add j) = some u := by
        intro j u hu
        rw [Addr.add_lit]
        have hB : Blk w g e cur := hg
        show w.cell? _ = _
        rw [hB.cell, Nat.zero_add]
        rw [List.getElem?_take] at hu
        split at hu
        · simpa using hu
        · cases hu
      have hold : (Builtin.firstCells i.size n (.slice (some ⟨g, 0, none⟩) n cap)).run P w.drew = .ok (cur.toList.take (n * i.size)).toArray w.drew :=
        run_firstCells_some w.drew i.size n ⟨g, 0, none⟩ n cap _ hxl holds
      have hr := run_append_grow_src (P := P) w t tx ty e i z ht hi hz (some ⟨g, 0, none⟩) n cap _ hold x m news hs (by omega) (by omega) (growslice_fits (by omega) hbytes)
      have hgr := grown cap _ (by omega) hxl (fun u hu => hci u (List.mem_of_mem_take hu))
      exact ⟨_, _, hr, hgr.1, hgr.2, by simp⟩

/-- 'clear' of such a row. -/
theorem run_clear_ints {P : Program} (w : World) (t ty e : TypeId) (i : TypeInfo) (z : Value) (size : Nat) (ht : P.underlying t = some (.slice e)) (hi : P.info? e = some i) (hz : i.zero = some z)
    (hzs : z.cells.size = size) (hzi : ∀ u ∈ z.cells.toList, IsI u) (hT : e = 76 ∨ e = 47)
    (v : Value) (n : Nat) (h : IR B e size w v n) :
    ∃ w', (Builtin.clear_ #[t] ty #[v]).run P w = .ok (.tuple #[]) w' ∧ IR B e size w' v n ∧ Tame B false w w' (fun _ => False) ∧ w.heap.size ≤ w'.heap.size := by
  rcases h with ⟨rfl, rfl⟩ | ⟨g, cap, rfl, hnc, hcm, cur, hg, hcs, hci⟩
  · exact ⟨w, by simp [Builtin.clear_, run_underlying ht], .inl ⟨rfl, rfl⟩, Tame.refl _ _ _, Nat.le_refl _⟩
  · cases n with
    | zero => exact ⟨w, by simp [Builtin.clear_, run_underlying ht], .inr ⟨g, cap, rfl, hnc, hcm, cur, hg, hcs, hci⟩, Tame.refl _ _ _, Nat.le_refl _⟩
    | succ n =>
      have hzl : (Builtin.zeroCells z.cells (n + 1)).toList.length = (n + 1) * size := by rw [Array.length_toList, size_zeroCells, hzs]
      have hfit : (Builtin.zeroCells z.cells (n + 1)).toList.length ≤ cur.size := by rw [hzl, hcs]; exact Nat.mul_le_mul_right _ hnc
      have hzi2 := zeroCells_ints _ hzi (n + 1)
      have hst := run_storeCells_at P g 0 e (Builtin.zeroCells z.cells (n + 1)).toList 0 cur w hg (by simpa using hfit) (fun u hu => (hzi2 u hu).one)
      simp only [Nat.add_zero, Nat.zero_add, List.take_zero, List.nil_append] at hst
      have hr : (Builtin.clear_ #[t] ty #[.slice (some ⟨g, 0, none⟩) (n + 1) cap]).run P w = .ok (.tuple #[]) (w.setRow g ((Builtin.zeroCells z.cells (n + 1)).toList ++ cur.toList.drop (Builtin.zeroCells z.cells (n + 1)).toList.length).toArray) := by
        simp [Builtin.clear_, run_underlying ht, zeroValue, typeInfo, hi, hz]
        rw [hst]
        simp
      have hB : IB e (cap * size) (w.setRow g ((Builtin.zeroCells z.cells (n + 1)).toList ++ cur.toList.drop (Builtin.zeroCells z.cells (n + 1)).toList.length).toArray).heap[g]? := by
        refine ⟨_, setRow_heap w g cur _ e _ hg, ?_, ?_⟩
        · simp only [List.size_toArray, List.length_append, List.length_drop]
          rw [Array.length_toList (xs := cur)]
          omega
        · intro u hu
          simp only [List.mem_append] at hu
          rcases hu with hu | hu
          · exact hzi2 u hu
          · exact hci u (List.mem_of_mem_drop hu)
      exact ⟨_, hr, .inr ⟨g, cap, rfl, hnc, hcm, hB⟩, Tame.row (g := g) hcm.2 ⟨rfl, rfl, rfl, by simp, fun k _ hk => setRow_other w g k _ hk⟩ hT ⟨cur, hg, hcs, hci⟩ hB, by simp⟩

end Go.Proofs.Qxb6003861aFmt
