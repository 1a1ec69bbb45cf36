import Derived.Test.Qxb6003725aWrE
import Derived.Test.Qxb6003725aWrG
namespace Go.Proofs.Qxb6003725a
open Go.RowKit

/-- m entries from the k-th on. -/
def encRest (num : Bool) (ss : List ByteArray) (zs : List Int) : Nat → Nat → List UInt8
  | _, 0 => []
  | k, m + 1 => entry num ss zs k ++ encRest num ss zs (k + 1) m

theorem encTo_rest (num : Bool) (ss : List ByteArray) (zs : List Int) : ∀ (m k : Nat), encTo num ss zs (k + m) = encTo num ss zs k ++ encRest num ss zs k m
  | 0, k => by simp [encRest]
  | m + 1, k => by
    rw [show k + (m + 1) = (k + 1) + m by omega, encTo_rest num ss zs m (k + 1), encTo, encRest, List.append_assoc]

theorem drop_step {L a b : List UInt8} {p : Nat} (h : L.drop p = a ++ b) (hp : p ≤ L.length) : L.drop (p + a.length) = b ∧ p + a.length ≤ L.length := by
  have hl := congrArg List.length h
  rw [List.length_drop, List.length_append] at hl
  refine ⟨?_, by omega⟩
  rw [← List.drop_drop, h]
  simp

theorem drop_get {L a b : List UInt8} {p : Nat} (h : L.drop p = a ++ b) (j : Nat) (hj : j < a.length) : L[p + j]? = some a[j] := by
  have : (L.drop p)[j]? = some a[j] := by rw [h, List.getElem?_append_left hj, List.getElem?_eq_getElem hj]
  rwa [List.getElem?_drop] at this

set_option maxRecDepth 100000 in
set_option maxHeartbeats 4000000 in
theorem reads_any (w : World) (ab ai an : Option Addr) (nb cb ci cn : Nat) (lb : List UInt8) (ss : List ByteArray) (zs : List Int) (hA : Args w ab ai an nb lb ss zs) :
    Calls Try.prog 5 #[.slice ab nb cb, .slice ai ss.length ci, .slice an zs.length cn] w fun e w' => e = .returned (.bool true) ∧ Below w.heap.size w w' := by
  obtain rfl := hA.lb
  have HA : Hid (Args w ab ai an lb.length lb ss zs) := hA
  clear hA
  go_enter Try.func5, Try.ntmps5
  go_wp2_with fail
  refine (zzBytes18_any w ab ai an lb.length cb ci zs.length cn ss HA.out.maxb HA.out.maxi HA.out.maxn HA.out.maxs HA.out.hi).mono ?_
  rintro e w' ⟨⟨r, rfl, _⟩, rfl⟩
  cases r with
  | false =>
    go_wp2
    go_ret
    exact ⟨rfl, Below.refl _ _⟩
  | true =>
  go_wp2_with fail
  refine (fit_any w' ab ai an lb.length cb ci zs.length cn ss HA.out.maxb HA.out.maxi HA.out.maxn HA.out.maxs HA.out.hi).mono ?_
  rintro e w ⟨⟨r, rfl, hy⟩, rfl⟩
  cases r with
  | false =>
    go_wp2
    go_ret
    exact ⟨rfl, Below.refl _ _⟩
  | true =>
  have HY : Hid (FitYes lb.length zs.length an ss) := hy rfl
  clear hy
  have hF := HA.out.fits HY.out
  go_wp2_with fail
  refine (cloneB_any w ab lb.length cb (bc lb) (bc_length lb) HA.out.hb HA.out.nilb (bc_shape lb) (by have := HY.out.1; omega)).mono ?_
  rintro e w1 ⟨ab', cb', rfl, hO1, hb1, _⟩
  go_wp2_with fail
  refine (cloneS_any w1 ai ss.length ci (ss.map Value.string) (by simp) (HA.out.hi.all hb1) HA.out.nili (str_shape ss) (by have := HY.out.2.1; omega)).mono ?_
  rintro e w2 ⟨ai', ci', rfl, hO2, hb2, _⟩
  go_wp2_with fail
  refine (cloneN_any w2 an zs.length cn (zs.map (Value.int .u64)) (by simp) ((HA.out.hn.all hb1).all hb2) HA.out.niln (int_shape zs) (by have := HY.out.2.2.1; omega)).mono ?_
  rintro e w3 ⟨an', cn', rfl, hO3, hb3, hsn⟩
  have HC : Hid (Cloned w w3 (.slice ab' lb.length cb') ai' an' lb ss zs) := cloned_of hO1 hb1 hO2 hb2 hO3 hb3
  have hlb : lb.length ≤ 1048576 := HY.out.1
  rw [← hsn] at hF
  clear hO1 hO2 hO3 hb1 hb2 hb3 HY
  go_wp2_with fail
  refine (entries_any w.heap.size (.slice ab' lb.length cb') lb ai' ci' ss an' cn' zs w3 hF HC.out.ob HC.out.below.size (by omega) HC.out.hi HC.out.ine HC.out.hn HC.out.nne).mono ?_
  rintro e w4 ⟨v4, rfl, hO4, hE4, hS4⟩
  have hB4 : Hid (Below w.heap.size w w4) := hE4.below HC.out.below HC.out.below.size (fun k hk => (HC.out.ob.lt k hk).1)
  have hVi : Hid (View w4 ai' (ss.map Value.string)) := HC.out.hi.ext hE4 HC.out.ine
  have hVn : Hid (View w4 an' (zs.map (Value.int .u64))) := HC.out.hn.ext hE4 HC.out.nne
  have hEl : (enc an'.isSome ss zs).length ≤ 100000000000 := by
    have h1 := hF.encTo_length ss.length
    have h2 := hF.len
    have h3 := Lib.uvarint_length64 (x := ss.length) (by omega)
    simp only [enc, List.length_append]
    omega
  obtain ⟨a4, c4, rfl, hV4, _⟩ := View.own hO4
  obtain ⟨_, _, q, hVb, _⟩ := View.own hS4
  cases q
  have hdr : (lb ++ enc an'.isSome ss zs).drop lb.length = Lib.uvarint ss.length ++ encRest an'.isSome ss zs 0 ss.length := by
    rw [List.drop_left, enc]
    have := encTo_rest an'.isSome ss zs ss.length 0
    rw [Nat.zero_add] at this
    rw [this]; simp [encTo]
  have HD : Hid ((lb ++ enc an'.isSome ss zs).drop lb.length = Lib.uvarint ss.length ++ encRest an'.isSome ss zs 0 ss.length) := hdr
  have hLl : (lb ++ enc an'.isSome ss zs).length = lb.length + (enc an'.isSome ss zs).length := List.length_append
  have hss : ss.length ≤ 65536 := hF.len
  have HFt : Hid (Fits ss zs an'.isSome) := hF
  generalize hE : enc an'.isSome ss zs = E at *
  clear hO4 hE4 hS4 hdr hF hsn
  have HV : Hid (View w4 a4 (bc (lb ++ E))) := hV4
  have HVb : Hid (View w4 ab' (bc lb)) := hVb
  clear hV4 hVb
  generalize hL : lb ++ E = L at *
  have HLb : Hid (∀ k, k < lb.length → (bc L)[k]? = (bc lb)[k]?) := by
    intro k hk; rw [← hL]; exact bc_left _ _ _ hk
  have hN1 : lb.length ≤ L.length := by omega
  have hN2 : L.length ≤ 200000000000 := by omega
  clear hLl hEl hL hE
  generalize hN : L.length = N at *
  generalize hnb : lb.length = nb at *
  have HN : Hid (L.length = N) := hN
  have HNB : Hid (lb.length = nb) := hnb
  clear hN hnb
  go_wp2
  go_loopw [8] (fun i wr => ∃ (k nq : Nat), k ≤ nb ∧ i = .int .i64 k ∧ wr = w4.drewN nq) (fun i _ => nb - (intOf i).toNat)
  case atStart => exact ⟨0, 0, Nat.zero_le _, rfl, rfl⟩
  case round =>
    obtain ⟨k, nq, hk, rfl, rfl⟩ := hrel
    by_cases hlt : k < nb
    · obtain ⟨b4, o4, q4, _, hc4⟩ := HV.out.at (j := k) (by rw [bc_length, HN.out]; omega)
      cases q4
      obtain ⟨bb, ob, qb, _, hcb⟩ := HVb.out.at (j := k) (by rw [bc_length, HNB.out]; omega)
      cases qb
      obtain ⟨z, hz⟩ := bc_some lb k (by rw [HNB.out]; omega)
      have hc1 : w4.cell? ⟨b4, o4 + k, none⟩ = some (.int .u8 z) := hc4 k _ (by rw [HLb.out k hlt]; exact hz)
      have hc2 : w4.cell? ⟨bb, ob + k, none⟩ = some (.int .u8 z) := hcb k _ hz
      have i1 : (0 : Int) ≤ (k : Int) := by omega
      have i2 : (k : Int) < (nb : Int) := by omega
      have i3 : (k : Int) < (N : Int) := by omega
      clear hc4 hcb hz
      go_wp2_with fail
      go_quiet (fail)
      go_wp2
      go_roundw
      case rel => exact ⟨k + 1, _, by omega, by go_num, rfl⟩
      case measure => simp [intOf]; omega
    · obtain rfl : k = nb := by omega
      go_wp2_with fail
      refine (readUvarint_any a4 N c4 L _ k ss.length _ (by omega) (by omega) (by omega) HN.out (by omega) (HV.out.drewN nq) (by rw [Int.toNat_natCast, Int.toNat_natCast]; exact HD.out)).mono ?_
      rintro e w5 ⟨rfl, rfl⟩
      rw [Int.toNat_natCast]
      obtain ⟨hd0, hp0⟩ := drop_step HD.out (by rw [HN.out]; omega)
      rw [HN.out] at hp0
      have HD0 : Hid (L.drop (k + (Lib.uvarint ss.length).length) = encRest an'.isSome ss zs 0 ss.length) := hd0
      clear hd0
      generalize (Lib.uvarint ss.length).length = ul at *
      go_wp2
      have hul0 : (0 : Int) ≤ (k : Int) + (ul : Int) := by omega
      go_loopw [9, 13] (fun ps i wr => ∃ (m nq : Nat) (P : Int), m ≤ ss.length ∧ i = .int .i64 m ∧ ps = .int .i64 P ∧ 0 ≤ P ∧ P ≤ (N : Int) ∧ Hid (L.drop P.toNat = encRest an'.isSome ss zs m (ss.length - m)) ∧ wr = w4.drewN nq) (fun _ i _ => ss.length - (intOf i).toNat)
      case atStart => exact ⟨0, nq, (k : Int) + (ul : Int), Nat.zero_le _, rfl, rfl, by omega, by omega, by rw [show ((k : Int) + (ul : Int)).toNat = k + ul by omega]; exact HD0, rfl⟩
      case round =>
        obtain ⟨m, nq2, P, hm, rfl, rfl, hP0, hPN, hdr, rfl⟩ := hrel
        by_cases hlt2 : m < ss.length
        · obtain ⟨bi, oi, qi, _, hci⟩ := hVi.out.at (j := m) (by simpa using hlt2)
          cases qi
          have hsz := HFt.out.ids m
          have hzb := HFt.out.nums m
          have hcs : w4.cell? ⟨bi, oi + m, none⟩ = some (.string (ss.getD m ByteArray.empty)) := hci m _ (by simp [List.getD, hlt2])
          have hR : L.drop P.toNat = Lib.uvarint (ss.getD m ByteArray.empty).size ++ ((ss.getD m ByteArray.empty).data.toList ++ ((if an'.isSome = true then Lib.uvarint (zs.getD m 0).toNat else []) ++ encRest an'.isSome ss zs (m + 1) (ss.length - (m + 1)))) := by
            rw [hdr.out, show ss.length - m = (ss.length - (m + 1)) + 1 by omega, encRest, entry, encID]
            simp [List.append_assoc]
          generalize hsd : ss.getD m ByteArray.empty = s at *
          generalize hzd : zs.getD m 0 = z at *
          obtain ⟨hz0, hz1⟩ := hzb
          have HZ : Hid (zs.getD m 0 = z) := hzd
          have HRR : Hid (L.drop P.toNat = Lib.uvarint s.size ++ (s.data.toList ++ ((if an'.isSome = true then Lib.uvarint z.toNat else []) ++ encRest an'.isSome ss zs (m + 1) (ss.length - (m + 1))))) := hR
          clear hR hsd hzd hci hdr
          go_wp2_with fail
          refine (readUvarint_any a4 N c4 L _ P s.size _ hP0 (by omega) (by omega) HN.out (by omega) (HV.out.drewN nq2) (by rw [Int.toNat_natCast]; exact HRR.out)).mono ?_
          rintro e w5 ⟨rfl, rfl⟩
          rw [Int.toNat_natCast]
          obtain ⟨hd1, hp1⟩ := drop_step HRR.out (by rw [HN.out]; omega)
          obtain ⟨hd2, hp2⟩ := drop_step hd1 hp1
          rw [HN.out] at hp1 hp2
          rw [bytes_len] at hd2 hp2
          generalize (Lib.uvarint s.size).length = ul1 at *
          obtain ⟨Q, hQ⟩ : ∃ Q : Int, P + (ul1 : Int) = Q := ⟨_, rfl⟩
          rw [hQ]
          have hQ0 : 0 ≤ Q := by omega
          have hQN : Q + (s.size : Int) ≤ (N : Int) := by omega
          have eQ : P.toNat + ul1 = Q.toNat := by omega
          rw [eQ] at hd1 hd2
          have HD1 : Hid (L.drop Q.toNat = s.data.toList ++ ((if an'.isSome = true then Lib.uvarint z.toNat else []) ++ encRest an'.isSome ss zs (m + 1) (ss.length - (m + 1)))) := hd1
          have HD2 : Hid (L.drop (Q.toNat + s.size) = (if an'.isSome = true then Lib.uvarint z.toNat else []) ++ encRest an'.isSome ss zs (m + 1) (ss.length - (m + 1))) := hd2
          clear hd1 hd2 hQ eQ hp1 hp2 HRR
          have i1 : (0 : Int) ≤ (m : Int) := by omega
          have i2 : (m : Int) < (ss.length : Int) := by omega
          go_wp2
          go_loopw [18] (fun i wr => ∃ (j np : Nat), j ≤ s.size ∧ i = .int .i64 j ∧ wr = w4.drewN np) (fun i _ => s.size - (intOf i).toNat)
          case atStart => exact ⟨0, nq2, Nat.zero_le _, rfl, rfl⟩
          case round =>
            obtain ⟨j, np, hj, rfl, rfl⟩ := hrel
            by_cases hlt3 : j < s.size
            · obtain ⟨b4, o4, q4, _, hc4⟩ := HV.out.at (j := Q.toNat + j) (by rw [bc_length, HN.out]; omega)
              cases q4
              have hcb : w4.cell? ⟨b4, o4 + (Q + (j : Int)).toNat, none⟩ = some (.int .u8 ((s[j]'hlt3).toNat : Int)) := by
                rw [show (Q + (j : Int)).toNat = Q.toNat + j by omega]
                refine hc4 _ _ ?_
                rw [bc, List.getElem?_map, drop_get HD1.out j (by rw [bytes_len]; exact hlt3)]
                rfl
              have j1 : (0 : Int) ≤ (j : Int) := by omega
              have j2 : (j : Int) < (s.size : Int) := by omega
              have j3 : Q + (j : Int) < (N : Int) := by omega
              have j4 : (0 : Int) ≤ Q + (j : Int) := by omega
              clear hc4
              go_wp2_with fail
              go_quiet (fail)
              go_wp2
              go_roundw
              case rel => exact ⟨j + 1, _, by omega, by go_num, rfl⟩
              case measure => simp [intOf]; omega
            · obtain rfl : j = s.size := by omega
              cases an' with
              | none =>
                have hnn := fun (W : World) => run_neq_slice_nil_any (P := Try.prog) W 37 42 none zs.length cn' 0 0 Try.underlying37
                clear hz0 hz1 HZ
                go_wp2
                go_roundw
                case rel => exact ⟨m + 1, np, Q + (s.size : Int), by omega, by go_num, rfl, by omega, by omega, by rw [show (Q + (s.size : Int)).toNat = Q.toNat + s.size by omega]; simpa [Hid] using HD2.out, rfl⟩
                case measure => simp [intOf]; omega
              | some aa =>
                have hnn := fun (W : World) => run_neq_slice_nil_any (P := Try.prog) W 37 42 (some aa) zs.length cn' 0 0 Try.underlying37
                obtain ⟨bn, on, qn, _, hcn⟩ := hVn.out.at (j := m) (by have := HFt.out.enough rfl; simp; omega)
                cases qn
                have hcz : w4.cell? ⟨bn, on + m, none⟩ = some (.int .u64 z) := hcn m _ (by
                  have := HFt.out.enough rfl
                  rw [← HZ.out]
                  simp [List.getD, show m < zs.length by omega])
                have i3 : (m : Int) < (zs.length : Int) := by have := HFt.out.enough rfl; omega
                have HD3 : Hid (L.drop (Q + (s.size : Int)).toNat = Lib.uvarint z.toNat ++ encRest true ss zs (m + 1) (ss.length - (m + 1))) := by
                  unfold Hid; rw [show (Q + (s.size : Int)).toNat = Q.toNat + s.size by omega]; simpa using HD2.out
                clear hcn
                go_wp2_with fail
                refine (readUvarint_any a4 N c4 L _ (Q + (s.size : Int)) z _ (by omega) hz0 hz1 HN.out (by omega) (HV.out.drewN np) HD3.out).mono ?_
                rintro e w5 ⟨rfl, rfl⟩
                obtain ⟨hd3, hp3⟩ := drop_step HD3.out (by rw [HN.out]; omega)
                rw [HN.out] at hp3
                have HD4 : Hid (L.drop ((Q + (s.size : Int)).toNat + (Lib.uvarint z.toNat).length) = encRest true ss zs (m + 1) (ss.length - (m + 1))) := hd3
                clear hd3 HD3 hz1
                generalize (Lib.uvarint z.toNat).length = ul2 at *
                go_wp2
                go_roundw
                case rel => exact ⟨m + 1, np, Q + (s.size : Int) + (ul2 : Int), by omega, by go_num, rfl, by omega, by omega, by rw [show (Q + (s.size : Int) + (ul2 : Int)).toNat = (Q + (s.size : Int)).toNat + ul2 by omega]; exact HD4, rfl⟩
                case measure => simp [intOf]; omega
        · obtain rfl : m = ss.length := by omega
          have hPe : P = (N : Int) := by
            have h1 := congrArg List.length hdr.out
            rw [Nat.sub_self, encRest, List.length_drop, HN.out] at h1
            simp at h1
            omega
          subst hPe
          go_wp2
          go_ret
          exact ⟨by simp, below_drewN hB4.out _⟩

end Go.Proofs.Qxb6003725a
