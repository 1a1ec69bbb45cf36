import Derived.Test.Qxb6003861aFmtAdB
import Derived.Deep.RegionHeld3
import Derived.Deep.QuietTactic
namespace Go.Proofs.Qxb6003861aFmt
open Go.RowKit
set_option linter.unusedVariables false
set_option linter.unusedSimpArgs false

/-- A block of plain cells. -/
def Blk (w : World) (g : Nat) (T : TypeId) (xs : Array Value) : Prop := w.heap[g]? = some (.cells xs T (0, 0))
theorem Blk.lt {w : World} {g : Nat} {T : TypeId} {xs : Array Value} (h : Blk w g T xs) : g < w.heap.size := (Array.getElem?_eq_some_iff.1 h).1
theorem Blk.cell {w : World} {g : Nat} {T : TypeId} {xs : Array Value} (h : Blk w g T xs) (k : Nat) : w.cell? ⟨g, k, none⟩ = xs[k]? := by
  unfold Blk at h
  simp [World.cell?, h]
theorem Blk.has {w : World} {g : Nat} {T : TypeId} {xs : Array Value} (h : Blk w g T xs) (k : Nat) (hk : k < xs.size) : ∃ y, w.cell? ⟨g, k, none⟩ = some y := ⟨xs[k], by rw [h.cell]; simp [hk]⟩
theorem Blk.frozen {w : World} {g : Nat} {T : TypeId} {xs : Array Value} (h : Blk w g T xs) (k : Nat) : w.frozen? ⟨g, k, none⟩ = false := by
  unfold Blk at h
  simp [World.frozen?, h]
theorem Blk.kept {w w' : World} {g : Nat} {T : TypeId} {xs : Array Value} {X : Nat → Prop} (h : Blk w g T xs) (k : Kept w w' X) (hX : ¬ X g) : Blk w' g T xs := (k.block g h.lt hX).trans h
theorem Blk.set {w : World} {g : Nat} {T : TypeId} {xs : Array Value} (h : Blk w g T xs) (k : Nat) (v : Value) : Blk (w.setCell ⟨g, k, none⟩ v) g T (xs.setIfInBounds k v) := by
  unfold Blk at h ⊢
  have hl := (Array.getElem?_eq_some_iff.1 h)
  obtain ⟨hlt, he⟩ := hl
  simp [World.setCell, Array.getElem?_modify, h]
theorem Blk.new (w : World) (T : TypeId) (xs : Array Value) : Blk (w.alloc (.cells xs T)) w.heap.size T xs := heap_alloc_new w _
theorem Blk.drewN {w : World} {g : Nat} {T : TypeId} {xs : Array Value} (h : Blk w g T xs) (n : Nat) : Blk (w.drewN n) g T xs := h
/-- What a part of it shows. -/
theorem Blk.view {w : World} {g : Nat} {T : TypeId} {xs : Array Value} (h : Blk w g T xs) (l : List Value) (hl : xs.toList = l) : View w (some ⟨g, 0, none⟩) l := by
  right
  refine ⟨g, 0, rfl, h.lt, fun j u hu => ?_⟩
  rw [Nat.zero_add, h.cell, ← hu, ← hl]
  simp


theorem blk_on {w w' : World} {g : Nat} {T : TypeId} {xs : Array Value} (hb : Below w.heap.size w w') (h : Blk w g T xs) : Blk w' g T xs := (hb.block _ h.lt).trans h
theorem Blk.drew {w : World} {g : Nat} {T : TypeId} {xs : Array Value} (h : Blk w g T xs) : Blk w.drew g T xs := h
theorem below_drew {B : Nat} {w w' : World} (h : Below B w w') : Below B w w'.drew := ⟨h.os, h.tape, h.output, h.size, h.block⟩

/-- A word that may be drawn. -/
def Drawn (x : Int) : Prop := 0 ≤ x ∧ x < 18446744073709551616 ∧ ∀ n : Nat, 1 ≤ n → n ≤ 256 → Fit x n
theorem drawn_ones : Drawn 18446744073709551615 := by
  refine ⟨by omega, by omega, fun n h1 h2 => ?_⟩
  unfold Fit
  have : (18446744073709551615 : Int) * n % 18446744073709551616 = 18446744073709551616 - n := by omega
  rw [this]
  have h3 : (18446744073709551616 - (n : Int)) % n < n := Int.emod_lt_of_pos _ (by omega)
  omega
/-- The tape, wherever it stands. -/
def TS (w : World) (tb : Nat) : Prop := ∃ (ao : Option Addr) (cap : Nat) (l : List Int) (i : Nat), Blk w tb 62 #[.slice ao l.length cap, .int .i64 i] ∧ View w ao (uc l) ∧ (∀ b off, ao = some ⟨b, off, none⟩ → b ≠ tb) ∧ (l = [] ∨ i < l.length) ∧ l.length ≤ 1000000 ∧ (∀ x ∈ l, Drawn x)
def Word (tb : Nat) (w : World) (e : Ending) (w' : World) : Prop := ∃ x, e = .returned (.int .u64 x) ∧ Drawn x ∧ TS w' tb ∧ Kept w w' (fun k => k = tb)

set_option maxRecDepth 100000 in
set_option maxHeartbeats 2000000 in
theorem word_any (tb : Nat) (w : World) (h : TS w tb) : Calls Tryf.prog 54 #[.pointer (some ⟨tb, 0, none⟩)] w (Word tb w) := by
  obtain ⟨ao, cap, l, i, hB, hV, hne, hi, hle, hd⟩ := h
  have HB := Hid.mk'' hB
  have HV := Hid.mk'' hV
  have HNe := Hid.mk'' hne
  have HD := Hid.mk'' hd
  have c0 : w.cell? ⟨tb, 0, none⟩ = some (.slice ao l.length cap) := hB.cell 0
  have c1 : w.cell? ⟨tb, 1, none⟩ = some (.int .i64 i) := hB.cell 1
  have f1 := hB.frozen
  obtain ⟨N, hN⟩ : ∃ N, N = l.length := ⟨_, rfl⟩
  have HN : Hid (N = l.length) := hN
  rw [← hN] at c0 hi hle
  by_cases h0 : N = 0
  · subst h0
    have HT : Hid (TS w tb) := ⟨ao, cap, l, i, hB, hV, hne, .inl (List.eq_nil_of_length_eq_zero hN.symm), by omega, hd⟩
    clear hB hV hne hd hN hi
    go_enter Tryf.func54, Tryf.ntmps54
    go_wp2_with fail
    go_ret
    exact ⟨_, rfl, drawn_ones, HT.out, Kept.refl _ _⟩
  · have hi' : i < N := by
      rcases hi with h | h
      · exact absurd (by rw [hN, h]; rfl) h0
      · exact h
    obtain ⟨b1, o1, q1, _, hc1⟩ := HV.out.at (j := i) (by rw [uc_length, ← HN.out]; omega)
    subst q1
    obtain ⟨x, hx⟩ : ∃ x, x = l.getD i 0 := ⟨_, rfl⟩
    have d1 : w.cell? ⟨b1, o1 + i, none⟩ = some (.int .u64 x) := hc1 i _ (by rw [hx]; exact uc_get l i (by rw [← HN.out]; omega))
    have HDx : Hid (Drawn x) := by
      rw [hx]
      have hlt : i < l.length := by rw [← hN]; exact hi'
      simp only [List.getD, List.getElem?_eq_getElem hlt, Option.getD_some]
      exact hd _ (List.getElem_mem hlt)
    have hbt : ¬ b1 = tb := hne b1 o1 rfl
    have i1 : (0 : Int) ≤ (i : Int) := by omega
    have i2 : (i : Int) < (N : Int) := by omega
    have i3 : ¬ (N : Int) = 0 := by omega
    have i4 : (N : Int) ≤ 1000000 := by omega
    have HT : Hid (∀ (W : World) (j : Nat), Kept w W (fun k => k = tb) → Blk W tb 62 #[.slice (some ⟨b1, o1, none⟩) N cap, .int .i64 j] → j < N → TS W tb) := fun W j hk hb hj =>
      ⟨_, cap, l, j, by rw [← HN.out]; exact hb, HV.out.kept hk (fun b off e q => HNe.out b off e q), HNe.out, .inr (by rw [← HN.out]; exact hj), by rw [← HN.out]; omega, HD.out⟩
    clear hB hV hne hd hN hi hc1 hx
    have HB2 : Hid (Blk w tb 62 #[.slice (some ⟨b1, o1, none⟩) N cap, .int .i64 i]) := by have h := HB.out; rw [← HN.out] at h; exact h
    by_cases hw : i + 1 = N
    · have i5 : (i : Int) + 1 = (N : Int) := by omega
      have i6 : ((N : Int) == (N : Int)) = true := by simp
      go_enter Tryf.func54, Tryf.ntmps54
      go_wp2_with fail
      go_quiet (fail)
      go_wp2_with fail
      obtain ⟨W, hW⟩ : ∃ W, W = (w.drewN nq).setCell ⟨tb, 1, none⟩ (.int .i64 (N : Int)) := ⟨_, rfl⟩
      have HW : Hid (Blk W tb 62 #[.slice (some ⟨b1, o1, none⟩) N cap, .int .i64 (N : Int)]) := by rw [hW]; exact (HB2.out.drewN nq).set 1 _
      have HK : Hid (Kept w W (fun k => k = tb)) := by rw [hW]; exact ((Kept.refl w (fun k => k = tb)).drewN nq).set (k := 1) (.inl rfl) _
      rw [← hW]
      clear hW c0 c1 f1 d1
      have c0 : W.cell? ⟨tb, 0, none⟩ = some (.slice (some ⟨b1, o1, none⟩) N cap) := HW.out.cell 0
      have c1 : W.cell? ⟨tb, 1, none⟩ = some (.int .i64 (N : Int)) := HW.out.cell 1
      have f1 := HW.out.frozen
      go_quiet (fail)
      go_wp2_with fail
      go_ret
      refine ⟨x, rfl, HDx.out, HT.out _ 0 ((HK.out.drewN _).set (k := 1) (.inl rfl) _) ((HW.out.drewN _).set 1 _) (by omega), (HK.out.drewN _).set (k := 1) (.inl rfl) _⟩
    · have i5 : ¬ (i : Int) + 1 = (N : Int) := by omega
      have i6 : ((i : Int) + 1 == (N : Int)) = false := by simp [i5]
      go_enter Tryf.func54, Tryf.ntmps54
      go_wp2_with fail
      go_quiet (fail)
      go_wp2_with fail
      obtain ⟨W, hW⟩ : ∃ W, W = (w.drewN nq).setCell ⟨tb, 1, none⟩ (.int .i64 ((i : Int) + 1)) := ⟨_, rfl⟩
      have HW : Hid (Blk W tb 62 #[.slice (some ⟨b1, o1, none⟩) N cap, .int .i64 ((i : Int) + 1)]) := by rw [hW]; exact (HB2.out.drewN nq).set 1 _
      have HK : Hid (Kept w W (fun k => k = tb)) := by rw [hW]; exact ((Kept.refl w (fun k => k = tb)).drewN nq).set (k := 1) (.inl rfl) _
      rw [← hW]
      clear hW c0 c1 f1 d1
      have c0 : W.cell? ⟨tb, 0, none⟩ = some (.slice (some ⟨b1, o1, none⟩) N cap) := HW.out.cell 0
      have c1 : W.cell? ⟨tb, 1, none⟩ = some (.int .i64 ((i : Int) + 1)) := HW.out.cell 1
      have f1 := HW.out.frozen
      go_quiet (fail)
      go_wp2_with fail
      go_ret
      refine ⟨x, rfl, HDx.out, HT.out _ (i + 1) (HK.out.drewN _) (HW.out.drewN _) (by omega), HK.out.drewN _⟩

end Go.Proofs.Qxb6003861aFmt
