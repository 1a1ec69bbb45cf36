import Derived.Test.Qxb6003713aFmtPaK
namespace Go.Proofs.Qxb6003713aFmt
open Go.RowKit
set_option linter.unusedVariables false
set_option linter.unusedSimpArgs false

theorem set_step {xs cs : List Value} {k : Nat} (hk : k < cs.length) (hl : xs.length = cs.length) (h : xs.take k = cs.take k) : (xs.set k cs[k]).take (k + 1) = cs.take (k + 1) := by
  have e1 : (xs.set k cs[k]).take k = xs.take k := List.take_set_of_le (Nat.le_refl _)
  have e2 : (xs.set k cs[k])[k]'(by simp; omega) = cs[k] := by simp
  rw [List.take_succ_eq_append_getElem (l := xs.set k cs[k]) (by simp; omega), e1, e2, h, List.take_succ_eq_append_getElem hk]

set_option maxHeartbeats 400000 in
theorem clone_nil (w : World) (n cap : Nat) :
    Calls Tryf.prog 16 #[.slice none n cap] w fun e w' => e = .returned (.slice none 0 0) ∧ w' = w := by
  have hnn := fun (W : World) => Lib.run_eql_slice_nil (P := Tryf.prog) W 23 5 none n cap 0 0 Tryf.underlying23
  go_enter Tryf.func16, Tryf.ntmps16
  go_wp2
  go_ret
  exact ⟨rfl, rfl⟩

set_option maxHeartbeats 400000 in
theorem clone_some (w : World) (a : Addr) (n cap : Nat) (cs : List Value) (hn : cs.length = n) (hV : View w (some a) cs) (hsh : ∀ j (hj : j < cs.length), ∃ z : Int, cs[j] = (.int .u8 z)) (hle : n ≤ 10000000) :
    Calls Tryf.prog 16 #[.slice (some a) n cap] w fun e w' => e = .returned (.slice (some ⟨w.heap.size, 0, none⟩) n n) ∧ w'.ownsRow w.heap.size 5 1 (.slice (some ⟨w.heap.size, 0, none⟩) n n) n cs ∧ Below w.heap.size w w' := by
  have hnn := fun (W : World) => Lib.run_eql_slice_nil (P := Tryf.prog) W 23 5 (some a) n cap 0 0 Tryf.underlying23
  obtain ⟨i0, hi, hz0, hz1, hz2⟩ := info_parts Tryf.info5
  go_enter Tryf.func16, Tryf.ntmps16
  go_wp2_with (at_make; refine wpList_make_full _ rfl _ _ 23 rfl w.heap.size 5 i0 (.int .u8 0) 1 Tryf.underlying23 hi hz0 hz1 _ _ _ _ n rfl rfl rfl rfl (by rw [hz2]; omega) (by unfold maxLen; omega) (Nat.le_refl _) ?_; intro w1 hown1 hgrow1)
  have hb1 : Below w.heap.size w w1 := (Below.refl _ _).grown hgrow1 (Nat.le_refl _) (fun k h => by cases h)
  clear hgrow1
  go_loopw [4] (fun i wr => ∃ (k : Nat) (xs : List Value), k ≤ n ∧ i = .int .i64 k ∧ wr.ownsRow w.heap.size 5 1 (.slice (some ⟨w.heap.size, 0, none⟩) n n) n xs ∧ Hid (xs.take k = cs.take k) ∧ Below w.heap.size w wr)
    (fun i _ => n - (intOf i).toNat)
  case atStart => exact ⟨0, _, Nat.zero_le _, rfl, hown1, by simp [Hid], hb1⟩
  case round =>
    obtain ⟨k, xs, hk, rfl, hown, htk, hb⟩ := hrel
    by_cases hlt : k < n
    · obtain ⟨b, off, hab, hblt, hcell⟩ := hV.at (j := k) (by omega)
      cases hab
      obtain ⟨z, hz⟩ := hsh k (by omega)
      have hc1 : wr.cell? ⟨b, off + k, none⟩ = some (.int .u8 z) := (hb.cell (p := ⟨b, off + k, none⟩) hblt).trans (hcell k _ (by rw [List.getElem?_eq_getElem (by omega), hz]))
      have hxl : xs.length = n := by simpa using hown.1
      obtain ⟨u0, hc2⟩ : ∃ u0, wr.cell? ⟨w.heap.size, k, none⟩ = some u0 := ⟨_, (hown.cellAt k (by omega)).trans (List.getElem?_eq_getElem (by omega))⟩
      have hf2 := hown.frozenAt k
      have hst := hown.stored k (.int .u8 z)
      have HX : Hid ((xs.set k (.int .u8 z)).take (k + 1) = cs.take (k + 1)) := by
        have := set_step (xs := xs) (cs := cs) (k := k) (by omega) (by omega) htk.out
        rw [hz] at this; exact this
      have HS : Hid ((wr.setCell ⟨w.heap.size, k, none⟩ (.int .u8 z)).ownsRow w.heap.size 5 1 (.slice (some ⟨w.heap.size, 0, none⟩) n n) n (xs.set k (.int .u8 z))) := hst.1
      clear hst htk hcell hz
      go_wp2
      go_roundw
      case rel => exact ⟨k + 1, _, by omega, by go_num, HS.out, HX, hb.setCell (Nat.le_refl _) _⟩
      case measure => simp [intOf]; omega
    · obtain rfl : k = n := by omega
      go_wp2
      go_ret
      have hx : xs = cs := by
        have h1 : xs.length = k := by simpa using hown.1
        have := htk.out
        rw [List.take_of_length_le (by omega), List.take_of_length_le (by omega)] at this
        exact this
      subst hx
      exact ⟨rfl, hown, hb⟩


end Go.Proofs.Qxb6003713aFmt
