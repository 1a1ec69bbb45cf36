import Derived.Test.Qxb6003713aFmtPaL
namespace Go.Proofs.Qxb6003713aFmt
open Go.RowKit
set_option linter.unusedVariables false
set_option linter.unusedSimpArgs false

/-- How a clone of bytes ends. -/
def Cloned (l : List UInt8) (w : World) (e : Ending) (w' : World) : Prop :=
  ∃ ao, e = .returned (.slice ao l.length l.length) ∧ View w' ao (bc l) ∧ (ao = none → l.length = 0) ∧ (∀ k o, ao = some ⟨k, o, none⟩ → w.heap.size ≤ k ∧ k < w'.heap.size) ∧ Below w.heap.size w w'

theorem clone_bytes (ao : Option Addr) (cap : Nat) (l : List UInt8) (w : World) (hV : View w ao (bc l)) (hnil : ao = none → l = []) (hle : l.length ≤ 10000000) : Calls Tryf.prog 16 #[.slice ao l.length cap] w (Cloned l w) := by
  cases ao with
  | none =>
    obtain rfl := hnil rfl
    refine (clone_nil w 0 cap).mono ?_
    rintro e w' ⟨rfl, rfl⟩
    exact ⟨none, rfl, View.nil _ _, fun _ => rfl, (fun k o h => by cases h), Below.refl _ _⟩
  | some a =>
    refine (clone_some w a l.length cap (bc l) (bc_length l) hV (fun j hj => ⟨((l[j]'(by simpa [bc] using hj)).toNat : Int), by simp [bc]⟩) hle).mono ?_
    rintro e w' ⟨rfl, hown, hb⟩
    obtain ⟨ao', cap', hv, hV', _, _, _, _, ha⟩ := View.own hown
    cases hv
    exact ⟨some ⟨w.heap.size, 0, none⟩, rfl, hV', (fun h => by cases h), (fun k o h => (ha _ h).2.2), hb⟩

/-- The clones so far. -/
def Done (B : Nat) (L : List (List UInt8)) (wr : World) (xs : List Value) (k : Nat) : Prop :=
  ∀ j, j < k → ∃ ba cb, xs[j]? = some (.slice ba (el L j).length cb) ∧ View wr ba (bc (el L j)) ∧ (ba = none → el L j = []) ∧ (∀ b o, ba = some ⟨b, o, none⟩ → b ≠ B)

theorem Done.step {B : Nat} {L : List (List UInt8)} {wr w1 : World} {xs : List Value} {k : Nat} (h : Done B L wr xs k) (hk : Kept wr w1 (fun i => i = B)) {ba : Option Addr} {cb : Nat} (hx : k < xs.length) (h1 : View w1 ba (bc (el L k))) (h2 : ba = none → el L k = []) (h3 : ∀ b o, ba = some ⟨b, o, none⟩ → b ≠ B) :
    Done B L w1 (xs.set k (.slice ba (el L k).length cb)) (k + 1) := by
  intro j hj
  by_cases hjk : j = k
  · subst hjk
    exact ⟨ba, cb, by simp [hx], h1, h2, h3⟩
  · obtain ⟨b', c', e, q1, q2, q3⟩ := h j (by omega)
    exact ⟨b', c', by rw [List.getElem?_set_ne (by omega)]; exact e, q1.kept hk q3, q2, q3⟩

/-- How a clone of a list ends. -/
def ClonedL (L : List (List UInt8)) (w : World) (e : Ending) (w' : World) : Prop :=
  ∃ ao, e = .returned (.slice ao L.length L.length) ∧ LView w' ao L ∧ Below w.heap.size w w'

theorem cloneL_nil (w : World) (n cap : Nat) :
    Calls Tryf.prog 29 #[.slice none n cap] w fun e w' => e = .returned (.slice none 0 0) ∧ w' = w := by
  have hnn := fun (W : World) => Lib.run_eql_slice_nil (P := Tryf.prog) W 37 23 none n cap 0 0 Tryf.underlying37
  go_enter Tryf.func29, Tryf.ntmps29
  go_wp2
  go_ret
  exact ⟨rfl, rfl⟩

set_option maxHeartbeats 1000000 in
theorem cloneL_some (w : World) (a : Addr) (cap : Nat) (L : List (List UInt8)) (hL : LView w (some a) L) (hle : L.length ≤ 4096) (hel : ∀ i, i < L.length → (el L i).length ≤ 10000000) :
    Calls Tryf.prog 29 #[.slice (some a) L.length cap] w (ClonedL L w) := by
  have hnn := fun (W : World) => Lib.run_eql_slice_nil (P := Tryf.prog) W 37 23 (some a) L.length cap 0 0 Tryf.underlying37
  obtain ⟨i0, hi, hz0, hz1, hz2⟩ := info_parts Tryf.info23
  have HL : Hid (LView w (some a) L) := hL
  have HEl : Hid (∀ i, i < L.length → (el L i).length ≤ 10000000) := hel
  clear hL hel
  go_enter Tryf.func29, Tryf.ntmps29
  go_wp2_with (at_make; refine wpList_make_full _ rfl _ _ 37 rfl w.heap.size 23 i0 (.slice none 0 0) 1 Tryf.underlying37 hi hz0 hz1 _ _ _ _ L.length rfl rfl rfl rfl (by rw [hz2]; omega) (by unfold maxLen; omega) (Nat.le_refl _) ?_; intro w1 hown1 hgrow1)
  have hb1 : Below w.heap.size w w1 := (Below.refl _ _).grown hgrow1 (Nat.le_refl _) (fun k h => by cases h)
  clear hgrow1
  go_loopw [4] (fun i wr => ∃ (k : Nat) (xs : List Value), k ≤ L.length ∧ i = .int .i64 k ∧ wr.ownsRow w.heap.size 23 1 (.slice (some ⟨w.heap.size, 0, none⟩) L.length L.length) L.length xs ∧ Hid (Done w.heap.size L wr xs k) ∧ Hid (Below w.heap.size w wr))
    (fun i _ => L.length - (intOf i).toNat)
  case atStart => exact ⟨0, _, Nat.zero_le _, rfl, hown1, (fun j hj => by omega), hb1⟩
  case round =>
    obtain ⟨k, xs, hk, rfl, hown, HD, HB⟩ := hrel
    have hxl : xs.length = L.length := by simpa using hown.1
    by_cases hlt : k < L.length
    · obtain ⟨b, off, ba, cb, hla, hcl, hVb, hnb⟩ := HL.out.at hlt
      cases hla
      have hcell := cell_later HB.out hcl
      have HVb : Hid (View wr ba (bc (el L k))) := hVb.all HB.out
      have HNb : Hid (ba = none → el L k = []) := hnb
      have hrl : w.heap.size < wr.heap.size := (World.ownsRow.lt hown _ rfl).2
      have HO : Hid (wr.ownsRow w.heap.size 23 1 (.slice (some ⟨w.heap.size, 0, none⟩) L.length L.length) L.length xs) := hown
      have i1 : (0 : Int) ≤ (k : Int) := by omega
      have i2 : (k : Int) < (L.length : Int) := by omega
      clear hcl hVb hnb hown
      go_wp2_with (first
        | (go_at_call 16; go_must (refine (clone_bytes ba cb (el L k) wr HVb.out HNb.out (HEl.out k hlt)).mono ?_); rintro e w2 ⟨a2, rfl, hV2, hn2, ha2, hb2⟩; have hkw : Kept wr w2 (fun i => i = w.heap.size) := Kept.ofAll hb2 _; have ho2 : w2.ownsRow w.heap.size 23 1 (.slice (some ⟨w.heap.size, 0, none⟩) L.length L.length) L.length xs := ownsRow_keptX HO.out (Kept.ofAll hb2 (fun _ => False)) (fun _ _ h => h); have hst := ho2.stored k (.slice a2 (el L k).length (el L k).length); have HS : Hid ((w2.setCell ⟨w.heap.size, k, none⟩ (.slice a2 (el L k).length (el L k).length)).ownsRow w.heap.size 23 1 (.slice (some ⟨w.heap.size, 0, none⟩) L.length L.length) L.length (xs.set k (.slice a2 (el L k).length (el L k).length))) := hst.1; obtain ⟨u0, hc2⟩ : ∃ u0, w2.cell? ⟨w.heap.size, k, none⟩ = some u0 := ⟨_, (ho2.cellAt k (by omega)).trans (List.getElem?_eq_getElem (by omega))⟩; have hf2 := ho2.frozenAt k; have hset : Kept w2 (w2.setCell ⟨w.heap.size, k, none⟩ (.slice a2 (el L k).length (el L k).length)) (fun i => i = w.heap.size) := (Kept.refl w2 (fun i => i = w.heap.size)).set (.inl rfl) _; have HD2 : Hid (Done w.heap.size L (w2.setCell ⟨w.heap.size, k, none⟩ (.slice a2 (el L k).length (el L k).length)) (xs.set k (.slice a2 (el L k).length (el L k).length)) (k + 1)) := (HD.out.step (hkw.trans hset) (by omega) (hV2.kept hset (fun b' o' h' => by have := (ha2 b' o' h').1; omega)) (fun h' => List.eq_nil_of_length_eq_zero (hn2 h')) (fun b' o' h' => by have := (ha2 b' o' h').1; omega)); have HB2 : Hid (Below w.heap.size w (w2.setCell ⟨w.heap.size, k, none⟩ (.slice a2 (el L k).length (el L k).length))) := ((HB.out.trans (hb2.mono (Nat.le_of_lt hrl))).setCell (Nat.le_refl _) _); clear hV2 hn2 ha2 hb2 hkw ho2 hst hset)
        | fail)
      go_roundw
      case rel => exact ⟨k + 1, _, by omega, by go_num, HS.out, HD2, HB2⟩
      case measure => simp [intOf]; omega
    · obtain rfl : k = L.length := by omega
      go_wp2
      go_ret
      obtain ⟨ao', cap', hv, hV', _, _, _, _, _⟩ := View.own hown
      cases hv
      refine ⟨some ⟨w.heap.size, 0, none⟩, rfl, ⟨xs, hV', hxl, fun j hj => ?_⟩, HB.out⟩
      obtain ⟨ba, cb, q1, q2, q3, _⟩ := HD.out j hj
      exact ⟨ba, cb, q1, q2, q3⟩

end Go.Proofs.Qxb6003713aFmt
