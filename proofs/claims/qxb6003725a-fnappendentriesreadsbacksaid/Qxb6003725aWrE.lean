import Derived.Test.Qxb6003725aWrD
namespace Go.Proofs.Qxb6003725a
open Go.RowKit

theorem bc_some (l : List UInt8) (k : Nat) (h : k < l.length) : ∃ z : Int, (bc l)[k]? = some (.int .u8 z) := ⟨_, bc_get l k h⟩
theorem bc_left (l E : List UInt8) (k : Nat) (h : k < l.length) : (bc (l ++ E))[k]? = (bc l)[k]? := by
  rw [bc_append, List.getElem?_append_left (by rw [bc_length]; exact h)]
theorem bc_right (l E : List UInt8) (k : Nat) : (bc (l ++ E))[l.length + k]? = (bc E)[k]? := by
  rw [bc_append, List.getElem?_append_right (by rw [bc_length]; omega), bc_length, Nat.add_sub_cancel_left]

set_option maxHeartbeats 1000000 in
theorem prefix_any (w : World) (ab ai an : Option Addr) (nb cb ci cn : Nat) (lb : List UInt8) (ss : List ByteArray) (zs : List Int) (hA : Args w ab ai an nb lb ss zs) :
    Calls Try.prog 6 #[.slice ab nb cb, .slice ai ss.length ci, .slice an zs.length cn] w fun e w' => e = .returned (.bool true) ∧ Below w.heap.size w w' := by
  obtain rfl := hA.lb
  have HA : Hid (Args w ab ai an lb.length lb ss zs) := hA
  clear hA
  go_enter Try.func6, Try.ntmps6
  go_wp2_with fail
  refine (zzBytes25_any w ab ai an lb.length cb ci zs.length cn ss HA.out.maxb HA.out.maxi HA.out.maxn HA.out.maxs HA.out.hi).mono ?_
  rintro e w' ⟨⟨r, rfl, _⟩, rfl⟩
  cases r with
  | false =>
    go_wp2
    go_ret
    exact ⟨rfl, Below.refl _ _⟩
  | true =>
  go_wp2_with fail
  refine (fit_any w' ab ai an lb.length cb ci zs.length cn ss HA.out.maxb HA.out.maxi HA.out.maxn HA.out.maxs HA.out.hi).mono ?_
  rintro e w ⟨⟨r, rfl, hy⟩, rfl⟩
  cases r with
  | false =>
    go_wp2
    go_ret
    exact ⟨rfl, Below.refl _ _⟩
  | true =>
  have HY : Hid (FitYes lb.length zs.length an ss) := hy rfl
  clear hy
  have hF := HA.out.fits HY.out
  go_wp2_with fail
  refine (cloneB_any w ab lb.length cb (bc lb) (bc_length lb) HA.out.hb HA.out.nilb (bc_shape lb) (by have := HY.out.1; omega)).mono ?_
  rintro e w1 ⟨ab', cb', rfl, hO1, hb1, _⟩
  go_wp2_with fail
  refine (cloneS_any w1 ai ss.length ci (ss.map Value.string) (by simp) (HA.out.hi.all hb1) HA.out.nili (str_shape ss) (by have := HY.out.2.1; omega)).mono ?_
  rintro e w2 ⟨ai', ci', rfl, hO2, hb2, _⟩
  go_wp2_with fail
  refine (cloneN_any w2 an zs.length cn (zs.map (Value.int .u64)) (by simp) ((HA.out.hn.all hb1).all hb2) HA.out.niln (int_shape zs) (by have := HY.out.2.2.1; omega)).mono ?_
  rintro e w3 ⟨an', cn', rfl, hO3, hb3, hsn⟩
  have HC : Hid (Cloned w w3 (.slice ab' lb.length cb') ai' an' lb ss zs) := cloned_of hO1 hb1 hO2 hb2 hO3 hb3
  have hlb : lb.length ≤ 1048576 := HY.out.1
  rw [← hsn] at hF
  clear hO1 hO2 hO3 hb1 hb2 hb3 HY
  go_wp2_with fail
  refine (entries_any w.heap.size (.slice ab' lb.length cb') lb ai' ci' ss an' cn' zs w3 hF HC.out.ob HC.out.below.size (by omega) HC.out.hi HC.out.ine HC.out.hn HC.out.nne).mono ?_
  rintro e w4 ⟨v4, rfl, hO4, hE4, hS4⟩
  go_wp2_with fail
  refine (entries_any w.heap.size (.slice none 0 0) [] ai' ci' ss an' cn' zs w4 hF (OB.nil _ _ _) (Nat.le_trans HC.out.below.size hE4.size) (by simp) (HC.out.hi.ext hE4 HC.out.ine) (fun _ _ _ q => by cases q) (HC.out.hn.ext hE4 HC.out.nne) (fun _ _ _ q => by cases q)).mono ?_
  rintro e w5 ⟨v5, rfl, hO5, hE5, _⟩
  have hO45 : OB 5 w.heap.size w5 v4 (lb ++ enc an'.isSome ss zs) := hO4.kept hE5 (by cases h : v4.ownBlock <;> simp [Value.ownBlock])
  have hOb5 : OB 5 w.heap.size w5 (.slice ab' lb.length cb') lb := hS4.kept hE5 (by cases h : Value.ownBlock (.slice ab' lb.length cb') <;> simp [Value.ownBlock])
  have hB5 : Hid (Below w.heap.size w w5) := by
    have h4 : Below w.heap.size w w4 := hE4.below HC.out.below HC.out.below.size (fun k hk => (HC.out.ob.lt k hk).1)
    exact hE5.below h4 h4.size (fun k hk => by cases hk)
  rw [List.nil_append] at hO5
  obtain ⟨E, hE⟩ : ∃ E, E = enc an'.isSome ss zs := ⟨_, rfl⟩
  rw [← hE] at hO45 hO5
  have hEl : E.length ≤ 100000000000 := by
    rw [hE]
    have h1 := hF.encTo_length ss.length
    have h2 := hF.len
    have h3 := Lib.uvarint_length64 (x := ss.length) (by omega)
    simp only [enc, List.length_append]
    omega
  clear hO4 hE4 hE5 hS4 hE hF
  obtain ⟨a4, c4, rfl, hV4, _⟩ := View.own hO45
  obtain ⟨a5, c5, rfl, hV5, _⟩ := View.own hO5
  obtain ⟨_, _, q, hVb, _⟩ := View.own hOb5
  cases q
  clear hO45 hO5 hOb5
  rw [List.length_append]
  generalize hn5 : E.length = n5 at *
  generalize hnb : lb.length = nb at *
  go_wp2
  go_loopw [9] (fun i wr => ∃ (k nq : Nat), k ≤ nb ∧ i = .int .i64 k ∧ wr = w5.drewN nq) (fun i _ => nb - (intOf i).toNat)
  case atStart => exact ⟨0, 0, Nat.zero_le _, rfl, rfl⟩
  case round =>
    obtain ⟨k, nq, hk, rfl, rfl⟩ := hrel
    by_cases hlt : k < nb
    · obtain ⟨b4, o4, q4, _, hc4⟩ := hV4.at (j := k) (by rw [bc_length, List.length_append]; omega)
      cases q4
      obtain ⟨bb, ob, qb, _, hcb⟩ := hVb.at (j := k) (by rw [bc_length]; omega)
      cases qb
      obtain ⟨z, hz⟩ := bc_some lb k (by omega)
      have hc1 : w5.cell? ⟨b4, o4 + k, none⟩ = some (.int .u8 z) := hc4 k _ (by rw [bc_left _ _ _ (by omega)]; exact hz)
      have hc2 : w5.cell? ⟨bb, ob + k, none⟩ = some (.int .u8 z) := hcb k _ hz
      have i1 : (0 : Int) ≤ (k : Int) := by omega
      have i2 : (k : Int) < (nb : Int) := by omega
      have i3 : (k : Int) < (nb : Int) + (n5 : Int) := by omega
      clear hc4 hcb hz
      go_wp2_with fail
      go_quiet (fail)
      go_wp2
      go_roundw
      case rel => exact ⟨k + 1, _, by omega, by go_num, rfl⟩
      case measure => simp [intOf]; omega
    · go_wp2
      go_loopw [10] (fun i wr => ∃ (j np : Nat), j ≤ n5 ∧ i = .int .i64 j ∧ wr = w5.drewN np) (fun i _ => n5 - (intOf i).toNat)
      case atStart => exact ⟨0, nq, Nat.zero_le _, rfl, rfl⟩
      case round =>
        obtain ⟨j, np, hj, rfl, rfl⟩ := hrel
        by_cases hlt2 : j < n5
        · obtain ⟨b4, o4, q4, _, hc4⟩ := hV4.at (j := nb + j) (by rw [bc_length, List.length_append]; omega)
          cases q4
          obtain ⟨b5, o5, q5, _, hc5⟩ := hV5.at (j := j) (by rw [bc_length]; omega)
          cases q5
          obtain ⟨z, hz⟩ := bc_some E j (by omega)
          have hc1 : w5.cell? ⟨b4, o4 + (nb + j), none⟩ = some (.int .u8 z) := hc4 (nb + j) _ (by rw [← hnb, bc_right]; exact hz)
          have hc2 : w5.cell? ⟨b5, o5 + j, none⟩ = some (.int .u8 z) := hc5 j _ hz
          have i1 : (0 : Int) ≤ (j : Int) := by omega
          have i2 : (j : Int) < (n5 : Int) := by omega
          have i3 : (nb : Int) + (j : Int) < (nb : Int) + (n5 : Int) := by omega
          have i4 : (0 : Int) ≤ (nb : Int) + (j : Int) := by omega
          have i5 : (nb : Int) + (j : Int) ≤ 9000000000000000000 := by omega
          clear hc4 hc5 hz
          go_wp2_with fail
          go_quiet (fail)
          go_wp2
          go_roundw
          case rel => exact ⟨j + 1, _, by omega, by go_num, rfl⟩
          case measure => simp [intOf]; omega
        · go_wp2
          go_ret
          exact ⟨rfl, below_drewN hB5.out _⟩

end Go.Proofs.Qxb6003725a
