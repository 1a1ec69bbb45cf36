import Derived.Test.Qxb6003861aFmtAdN
import Derived.BigRegion
namespace Go.Proofs.Qxb6003861aFmt
open Go.RowKit
set_option linter.unusedVariables false
set_option linter.unusedSimpArgs false
variable {B : Nat}

theorem IB.set {T : TypeId} {n : Nat} {w : World} {g : Nat} (h : IB T n w.heap[g]?) (k : Nat) (z : Int) : IB T n (w.setCell ⟨g, k, none⟩ (.int .i64 z)).heap[g]? := by
  obtain ⟨cur, hg, hs, hi⟩ := h
  have hB : Blk w g T cur := hg
  have h2 : Blk (w.setCell ⟨g, k, none⟩ (.int .i64 z)) g T _ := hB.set k (.int .i64 z)
  refine ⟨_, h2, by simpa using hs, fun u hu => ?_⟩
  rw [Array.mem_toList_iff, Array.mem_iff_getElem?] at hu
  obtain ⟨i, hi2⟩ := hu
  rw [Array.getElem?_setIfInBounds] at hi2
  split at hi2
  · split at hi2
    · cases hi2; exact ⟨_, rfl⟩
    · cases hi2
  · exact hi u (by rw [Array.mem_toList_iff]; exact Array.mem_of_getElem? hi2)
theorem IB.frozen {T : TypeId} {n : Nat} {w : World} {g : Nat} (h : IB T n w.heap[g]?) (k : Nat) : w.frozen? ⟨g, k, none⟩ = false := by
  obtain ⟨cur, hg, _⟩ := h
  exact Blk.frozen (show Blk w g T cur from hg) k
theorem IB.cell {T : TypeId} {n : Nat} {w : World} {g : Nat} (h : IB T n w.heap[g]?) {k : Nat} (hk : k < n) : ∃ z, w.cell? ⟨g, k, none⟩ = some (.int .i64 z) := by
  obtain ⟨cur, hg, hs, hi⟩ := h
  have hB : Blk w g T cur := hg
  have hk2 : k < cur.size := by omega
  obtain ⟨z, hz⟩ := hi cur[k] (by simp)
  exact ⟨z, by rw [hB.cell]; simp [hk2, hz]⟩
set_option maxRecDepth 100000 in
set_option maxHeartbeats 4000000 in
theorem swap_any (w : World) (xb g n cap a b : Nat) (hB : Blk w xb 66 #[.slice (some ⟨g, 0, none⟩) n cap]) (hI : IB 76 (cap * 2) w.heap[g]?) (hc : n ≤ cap) (ha : a < n) (hb : b < n) :
    Calls Tryf.prog 27 #[.int .i64 (a : Int), .int .i64 (b : Int), .pointer (some ⟨xb, 0, none⟩)] w fun e w' => e = .returned (.tuple #[]) ∧ IB 76 (cap * 2) w'.heap[g]? ∧ Kept w w' (fun k => k = g) := by
  have c0 : w.cell? ⟨xb, 0, none⟩ = some (.slice (some ⟨g, 0, none⟩) n cap) := hB.cell 0
  have hne : ¬ xb = g := by
    intro e
    obtain ⟨cur, hg, _⟩ := hI
    exact hB.notT (T' := 76) (by decide) _ (by rw [e]; exact hg)
  have HI := Hid.mk'' hI
  obtain ⟨p0, d0⟩ := hI.cell (k := a * 2) (by omega)
  obtain ⟨p1, d1⟩ := hI.cell (k := a * 2 + 1) (by omega)
  obtain ⟨q0, e0⟩ := hI.cell (k := b * 2) (by omega)
  obtain ⟨q1, e1⟩ := hI.cell (k := b * 2 + 1) (by omega)
  have f := hI.frozen
  obtain ⟨u0, s0⟩ := (hI.set (a * 2) q0).cell (k := b * 2) (by omega)
  obtain ⟨u1, s1⟩ := ((hI.set (a * 2) q0).set (a * 2 + 1) q1).cell (k := b * 2 + 1) (by omega)
  have i1 : (a : Int) < (n : Int) := by omega
  have i2 : (b : Int) < (n : Int) := by omega
  clear hB hI
  go_enter Tryf.func27, Tryf.ntmps27
  go_wp2_with fail
  go_region
  all_goals (
    refine bodyPost_end (v := .tuple #[]) (by simp [results, Tryf.results27, go_sem]) rfl ?_
    refine ⟨rfl, ?_, ?_⟩
    · exact ((((HI.out.set _ _).set _ _).set _ _).set _ _)
    · exact (((((Kept.refl w (fun k => k = g)).set (.inl rfl) _).set (.inl rfl) _).set (.inl rfl) _).set (.inl rfl) _).drew)

/-- What the shuffle keeps. -/
structure SH (w : World) (rb tb xb g n cap : Nat) : Prop where
  rs : RP w rb tb
  bx : Blk w xb 66 #[.slice (some ⟨g, 0, none⟩) n cap]
  ib : IB 76 (cap * 2) w.heap[g]?
theorem SH.drew' {w w' : World} {rb tb xb g n cap : Nat} (h : SH w rb tb xb g n cap) (hT : TP w' tb) (k : Kept w w' (fun k => k = tb)) : SH w' rb tb xb g n cap := by
  obtain ⟨ao, c, l, i, h1, _⟩ := h.rs.2.2
  obtain ⟨cur, hg, hs, hi⟩ := h.ib
  refine ⟨⟨h.rs.1.kept k h.rs.2.1, h.rs.2.1, hT⟩, h.bx.kept k (fun e => ?_), ⟨cur, Blk.kept (show Blk w g 76 cur from hg) k (fun e => ?_), hs, hi⟩⟩
  · exact h.bx.notT (T' := 62) (by decide) _ (by rw [e]; exact h1)
  · exact h1.notT (T' := 76) (by decide) _ (by rw [← e]; exact hg)
theorem SH.swapped {w w' : World} {rb tb xb g n cap : Nat} (h : SH w rb tb xb g n cap) (hI : IB 76 (cap * 2) w'.heap[g]?) (k : Kept w w' (fun k => k = g)) : SH w' rb tb xb g n cap := by
  obtain ⟨cur, hg, hs, hi⟩ := h.ib
  have hg' : Blk w g 76 cur := hg
  have nt : ∀ T, (76 : TypeId) ≠ T → ∀ j, j = g → NotT w j T := fun T hT j e => by subst e; exact hg'.notT hT
  obtain ⟨ao, c, l, i, h1, h2, h3⟩ := h.rs.2.2
  have kt := Tame.ofKept (B := 0) (S := false) k
  refine ⟨⟨h.rs.1.kept k (fun e => hg'.notT (T' := 82) (by decide) _ (by rw [← e]; exact h.rs.1)), h.rs.2.1, h.rs.2.2.tame kt (fun j e => ⟨fun e2 => ?_, nt _ (by decide) j e⟩)⟩, h.bx.kept k (fun e => ?_), hI⟩
  · exact hg'.notT (T' := 62) (by decide) _ (by rw [← e, e2]; exact h1)
  · exact hg'.notT (T' := 66) (by decide) _ (by rw [← e]; exact h.bx)

set_option maxRecDepth 100000 in
set_option maxHeartbeats 4000000 in
theorem shuffle_any (w : World) (rb tb xb g n cap : Nat) (h : SH w rb tb xb g n cap) (hc : n ≤ cap) (hn : n ≤ 256) :
    Calls Tryf.prog 26 #[.pointer (some ⟨rb, 0, none⟩), .int .i64 (n : Int), .func (.func 27) #[] #[.pointer (some ⟨xb, 0, none⟩)]] w fun e w' => e = .returned (.tuple #[]) ∧ SH w' rb tb xb g n cap ∧ Kept w w' (fun k => k = tb ∨ k = g) := by
  have H := Hid.mk'' h
  have i0 : ¬ (n : Int) < 0 := by omega
  clear h
  go_enter Tryf.func26, Tryf.ntmps26
  go_wp2
  go_loopw [6] (fun a wr => ∃ (k : Int), -1 ≤ k ∧ k < n ∧ a = .int .i64 k ∧ Hid (SH wr rb tb xb g n cap ∧ Kept w wr (fun k => k = tb ∨ k = g))) (fun a _ => (intOf a).toNat)
  case atStart => exact ⟨(n : Int) - 1, by omega, by omega, by go_num, H.out, Kept.refl _ _⟩
  case round =>
    obtain ⟨k, hk1, hk2, rfl, HR⟩ := hrel
    by_cases hlt : 0 < k
    · obtain ⟨i, rfl⟩ : ∃ i : Nat, k = (i : Int) := ⟨k.toNat, by omega⟩
      have j1 : IntKind.u64.wrap ((i : Int) + 1) = ((i + 1 : Nat) : Int) := by rw [IntKind.wrap_u64]; omega
      have j2 : IntKind.i64.wrap ((i : Int) + 1) = ((i + 1 : Nat) : Int) := by rw [IntKind.wrap_i64]; omega
      go_wp2_with (first
        | (go_at_call 27; go_must (refine (swap_any w1 xb g n cap i j HR2.out.1.bx HR2.out.1.ib hc (by omega) (by omega)).mono ?_); rintro e w2 ⟨rfl, hI2, hK2⟩; have HR3 : Hid (SH w2 rb tb xb g n cap ∧ Kept w w2 (fun k => k = tb ∨ k = g)) := ⟨HR2.out.1.swapped hI2 hK2, HR2.out.2.trans (hK2.mono fun _ _ q => .inr q)⟩; clear hI2 hK2)
        | (go_at_call 28; refine (u64np_any rb tb (i + 1) _ HR.out.1.rs (by omega) (by omega)).mono ?_; rintro e w1 ⟨j, rfl, hj, hT1, hK1⟩; have HR2 : Hid (SH w1 rb tb xb g n cap ∧ Kept w w1 (fun k => k = tb ∨ k = g)) := ⟨HR.out.1.drew' hT1 hK1, HR.out.2.trans (hK1.mono fun _ _ q => .inl q)⟩; have j3 : IntKind.i64.wrap (j : Int) = (j : Int) := by { rw [IntKind.wrap_i64]; omega }; clear hT1 hK1)
        | fail)
      go_roundw
      case rel => exact ⟨(i : Int) - 1, by omega, by omega, by go_num, HR3.out⟩
      case measure => simp [intOf]; omega
    · go_wp2_with fail
      refine bodyPost_end (v := .tuple #[]) (by simp [results, Tryf.results26, go_sem]) rfl ?_
      exact ⟨rfl, HR.out⟩
end Go.Proofs.Qxb6003861aFmt
