import Derived.Test.Qxb6003713aFmtNoA
import Derived.Test.Qxb6003713aFmtFmt
namespace Go.Proofs.Qxb6003713aFmt
open Go.RowKit Go.Extern.Stop Go.Stop Go.Extern

set_option maxHeartbeats 1000000 in
theorem parseNotification_yes (b off n cap : Nat) (x y : Int) (w : World) (hn : 2 ≤ n) (hnc : n ≤ cap) (hcap : cap ≤ maxLen) (h0 : w.cell? ⟨b, off, none⟩ = some (.int .u8 x)) (h1 : w.cell? ⟨b, off + 1, none⟩ = some (.int .u8 y)) :
    Calls Tryf.prog 8 #[.slice (some ⟨b, off, none⟩) n cap] w fun e w' => e = .returned (.tuple #[.agg #[.int .u8 x, .int .u8 y, .slice (some ⟨b, if cap = 2 then off else off + 2, none⟩) (n - 2) (cap - 2)], .nilIface]) ∧ Below w.heap.size w w' := by
  unfold maxLen at hcap
  have hb1 : b < w.heap.size := World.block_lt_of_cell? w _ h0
  have d0 : ∀ o, (w.alloc o).cell? ⟨b, off, none⟩ = some (.int .u8 x) := fun o => (World.cell?_of_block (w := w) (Below.heap_alloc w _ b hb1)).trans h0
  have d1 : ∀ o, (w.alloc o).cell? ⟨b, off + 1, none⟩ = some (.int .u8 y) := fun o => (World.cell?_of_block (w := w) (Below.heap_alloc w _ b hb1)).trans h1
  have i0 : (0 : Int) < (n : Int) := by omega
  have j0 : 0 < n := by omega
  have i1 : (1 : Int) < (n : Int) := by omega
  have i2 : (2 : Int) ≤ (n : Int) := by omega
  by_cases hc2 : cap = 2
  · subst hc2
    rw [if_pos rfl]
    go_enter Tryf.func8, Tryf.ntmps8
    go_wp2
    go_region_held3 (fun w' => w'.cell? ⟨b, off, none⟩ = some (.int .u8 x) ∧ w'.cell? ⟨b, off + 1, none⟩ = some (.int .u8 y)) (go_keep) (fail)
    all_goals
      go_wp2
      refine bodyPost_ret (v := .tuple #[.agg #[.int .u8 x, .int .u8 y, .slice (some ⟨b, off, none⟩) (n - 2) (2 - 2)], .nilIface]) (by simp [results, Tryf.results8, go_sem]; omega) rfl ⟨rfl, ?_⟩
      exact ((Below.refl _ _).alloc (Nat.le_refl _) _).drew
  · rw [if_neg hc2]
    go_enter Tryf.func8, Tryf.ntmps8
    go_wp2
    go_region_held3 (fun w' => w'.cell? ⟨b, off, none⟩ = some (.int .u8 x) ∧ w'.cell? ⟨b, off + 1, none⟩ = some (.int .u8 y)) (go_keep) (fail)
    all_goals
      go_wp2
      refine bodyPost_ret (v := .tuple #[.agg #[.int .u8 x, .int .u8 y, .slice (some ⟨b, off + 2, none⟩) (n - 2) (cap - 2)], .nilIface]) (by simp [results, Tryf.results8, go_sem]) rfl ⟨rfl, ?_⟩
      exact ((Below.refl _ _).alloc (Nat.le_refl _) _).drew

/-- How the short body's error comes back. -/
def ShortErr (w : World) (a : Addr) (e : Ending) (w' : World) : Prop :=
  ∃ N, w.heap.size ≤ N ∧ e = .returned (.tuple #[.agg #[.int .u8 0, .int .u8 0, .slice none 0 0], .iface 134 (.pointer (some ⟨N, 0, none⟩))]) ∧ w'.cell? ⟨N, 1, none⟩ = some (.iface 152 (.pointer (some a))) ∧ Below w.heap.size w w'

set_option maxHeartbeats 1000000 in
theorem parseNotification_no (F : Interp) (ao : Option Addr) (n cap : Nat) (t : ByteArray) (a : Addr) (w : World) (hF : F.answers w.tape) (hn : n < 2) (hg : w.cell? ⟨0, 0, none⟩ = some (.iface 152 (.pointer (some a)))) (hs : w.cell? a = some (.string t)) :
    Calls Tryf.prog 8 #[.slice ao n cap] w (ShortErr w a) := by
  have hg1 : ∀ o, (w.alloc o).cell? ⟨0, 0, none⟩ = some (.iface 152 (.pointer (some a))) := fun o => cell_later ((Below.refl _ w).alloc (Nat.le_refl _) o) hg
  have hs2 : ∀ o o', ((w.alloc o).alloc o').cell? a = some (.string t) := fun o o' => cell_later (((Below.refl _ w).alloc (Nat.le_refl _) o).alloc (by simp) o') hs
  have hnew : ∀ o x y, ∀ k : Nat, ((w.alloc o).alloc (.cells #[x, y] 20)).cell? ⟨w.heap.size + 1, k, none⟩ = #[x, y][k]? := fun o x y k => by
    have h := World.cell?_alloc_new (w := w.alloc o) #[x, y] 20 k
    rw [show (w.alloc o).heap.size = w.heap.size + 1 by simp] at h
    exact h
  have hnew3 : ∀ o o' x y, ∀ k : Nat, (((w.alloc o).alloc o').alloc (.cells #[x, y] 229)).cell? ⟨w.heap.size + 1 + 1, k, none⟩ = #[x, y][k]? := fun o o' x y k => by
    have h := World.cell?_alloc_new (w := (w.alloc o).alloc o') #[x, y] 229 k
    rw [show ((w.alloc o).alloc o').heap.size = w.heap.size + 1 + 1 by simp] at h
    exact h
  go_enter Tryf.func8, Tryf.ntmps8
  go_wp2_with (go_at_call 23; go_must (refine (errorf_short F n t a (w.heap.size + 1) _ (by exact hF) (by exact hnew _ _ _ _) (by exact hnew _ _ _ _) (by exact hs2 _ _)).mono ?_); rintro e w1 ⟨rfl, s1, rfl⟩)
  refine bodyPost_ret (v := .tuple #[.agg #[.int .u8 0, .int .u8 0, .slice none 0 0], .iface 134 (.pointer (some ⟨w.heap.size + 1 + 1, 0, none⟩))]) (by simp [results, Tryf.results8, go_sem]) rfl ?_
  exact ⟨w.heap.size + 1 + 1, by omega, rfl, hnew3 _ _ _ _ 1, ((((Below.refl _ _).alloc (Nat.le_refl _) _).alloc (by simp) _).alloc (by simp; omega) _).drew⟩

end Go.Proofs.Qxb6003713aFmt
