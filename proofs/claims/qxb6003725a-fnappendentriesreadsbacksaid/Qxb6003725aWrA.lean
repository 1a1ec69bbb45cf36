import Derived.Test.Qxb6003725aRows
import Derived.Test.Qxb6003725aKit
import Derived.Lib.Varint
namespace Go.Proofs.Qxb6003725a
open Go.RowKit

theorem Try.info5b : (Try.prog.info? 5).map (fun i => (i.zero, i.size, i.bytes)) = some (some (.int .u8 0), 1, 1) := by kernel_rfl

set_option maxHeartbeats 400000 in
theorem uvar_any (x : Int) (B : Nat) (v : Value) (l : List UInt8) (w : World) (hx0 : 0 ≤ x) (hx : x < 18446744073709551616) (hO : OB 5 B w v l) (hB : B ≤ w.heap.size) (hlen : l.length ≤ 100000000000000) :
    Calls Try.prog 31 #[v, .int .u64 x] w fun e w' => ∃ v', e = .returned v' ∧ OB 5 B w' v' (l ++ Lib.uvarint x.toNat) ∧ Ext w w' v v' ∧ OB 5 B w' v l := by
  obtain ⟨i0, hi, hz0, hz1, hz2⟩ := info_parts Try.info5b
  have hu := Lib.uvarint_length64 (x := x.toNat) (by omega)
  have HU : Hid ((Lib.uvarint x.toNat).length ≤ 10) := hu
  clear hu
  go_enter Try.func31, Try.ntmps31
  go_wp2
  go_loopw [0, 1] (fun v1 x1 wr => ∃ (y : Int) (d : List UInt8), x1 = .int .u64 y ∧ 0 ≤ y ∧ y < 18446744073709551616 ∧ OB 5 B wr v1 (l ++ d) ∧ Hid (d ++ Lib.uvarint y.toNat = Lib.uvarint x.toNat) ∧ Ext w wr v v1 ∧ OB 5 B wr v l)
    (fun _ i _ => (intOf i).toNat)
  case atStart => exact ⟨x, [], rfl, hx0, hx, by simpa using hO, rfl, Ext.refl _ _, hO⟩
  case round =>
    obtain ⟨y, d, rfl, hy0, hy, hO1, hd, hE, hO0⟩ := hrel
    have hdl : (l ++ d).length + 1 ≤ 100000000000010 := by
      have h1 := congrArg List.length hd.out
      have h2 := Lib.uvarint_pos y.toNat
      have := HU.out
      simp at h1 ⊢
      omega
    have hsz := hE.size
    by_cases hlt : y < 128
    · have hb8 : (y.toNat.toUInt8.toNat : Int) = y := by
        rw [show y.toNat.toUInt8.toNat = y.toNat % 256 from rfl]; omega
      have HB : Hid (bc [y.toNat.toUInt8] = [Value.int .u8 y]) := by
        show [Value.int .u8 _] = _
        rw [hb8]
      have HF : Hid (d ++ [y.toNat.toUInt8] = Lib.uvarint x.toNat) := by
        unfold Hid; rw [← hd.out, Lib.uvarint_small (by omega)]
      clear hb8 hd
      go_wp2_with (at_builtin; go_must (refine wpList_append_any _ rfl (.tmp 15) (.tmp 18) 36 36 rfl B 5 i0 (.int .u8 0) 1 1 Try.underlying36 hi hz0 hz1 hz2 rfl _ (l ++ d).length (bc (l ++ d)) rfl (hO1.alloc _) _ 1 (bc [y.toNat.toUInt8]) rfl (Src.lit wr Try.underlying36 [y.toNat.toUInt8] _ 1 1 5 (by rw [HB.out]) rfl) (by unfold maxLen; omega) (by omega) (by simp; omega) ?_); intro v3 w3 hown3 hext3 _ hst3)
      go_ret
      have hO3 : OB 5 B w3 v3 ((l ++ d) ++ [y.toNat.toUInt8]) := OB.app hown3 rfl
      refine ⟨_, rfl, ?_, hE.trans hext3.of_alloc, hO0.alloc _ |>.still (hO1.alloc _) hext3 hst3⟩
      rw [List.append_assoc, HF.out] at hO3
      exact hO3
    · have hm : 128 ≤ y := by omega
      have hor : bits .or .u8 (y % 256) 128 = y % 128 + 128 := by
        rw [Lib.u8_or128_any _ (by omega) (by omega)]; omega
      have hb8 : ((y.toNat % 128 + 128).toUInt8.toNat : Int) = y % 128 + 128 := by
        rw [show (y.toNat % 128 + 128).toUInt8.toNat = (y.toNat % 128 + 128) % 256 from rfl]; omega
      have HB : Hid (bc [(y.toNat % 128 + 128).toUInt8] = [Value.int .u8 (y % 128 + 128)]) := by
        show [Value.int .u8 _] = _
        rw [hb8]
      have HF : Hid (d ++ [(y.toNat % 128 + 128).toUInt8] ++ Lib.uvarint (y / 128).toNat = Lib.uvarint x.toNat) := by
        unfold Hid; rw [← hd.out, Lib.uvarint_big (x := y.toNat) (by omega), show (y / 128).toNat = y.toNat / 128 by omega]; simp
      clear hb8 hd
      go_wp2_with (at_builtin; go_must (refine wpList_append_any _ rfl (.tmp 7) (.tmp 11) 36 36 rfl B 5 i0 (.int .u8 0) 1 1 Try.underlying36 hi hz0 hz1 hz2 rfl _ (l ++ d).length (bc (l ++ d)) rfl (hO1.alloc _) _ 1 (bc [(y.toNat % 128 + 128).toUInt8]) rfl (Src.lit wr Try.underlying36 [(y.toNat % 128 + 128).toUInt8] _ 1 1 5 (by rw [HB.out]) rfl) (by unfold maxLen; omega) (by omega) (by simp; omega) ?_); intro v3 w3 hown3 hext3 _ hst3)
      go_roundw
      case rel =>
        have hO3 : OB 5 B w3 v3 ((l ++ d) ++ [(y.toNat % 128 + 128).toUInt8]) := OB.app hown3 rfl
        exact ⟨y / 128, d ++ [(y.toNat % 128 + 128).toUInt8], rfl, by omega, by omega, by simpa using hO3, HF, hE.trans hext3.of_alloc, hO0.alloc _ |>.still (hO1.alloc _) hext3 hst3⟩
      case measure => simp [intOf]; omega

theorem bytes_len (s : ByteArray) : s.data.toList.length = s.size := by rw [Array.length_toList]; rfl

/-- An id as the encoding writes it. -/
def encID (s : ByteArray) : List UInt8 := Lib.uvarint s.size ++ s.data.toList
theorem encID_length (s : ByteArray) (h : s.size ≤ 1048576) : (encID s).length ≤ s.size + 10 := by
  unfold encID
  have := Lib.uvarint_length64 (x := s.size) (by omega)
  rw [List.length_append, bytes_len]; omega

set_option maxHeartbeats 400000 in
theorem appendID_any (s : ByteArray) (B : Nat) (v : Value) (l : List UInt8) (w : World) (hs : s.size ≤ 1048576) (hO : OB 5 B w v l) (hB : B ≤ w.heap.size) (hlen : l.length ≤ 90000000000000) :
    Calls Try.prog 32 #[v, .string s] w fun e w' => ∃ v', e = .returned v' ∧ OB 5 B w' v' (l ++ encID s) ∧ Ext w w' v v' ∧ OB 5 B w' v l := by
  obtain ⟨i0, hi, hz0, hz1, hz2⟩ := info_parts Try.info5b
  have hu := Lib.uvarint_length64 (x := s.size) (by omega)
  have hl1 : (l ++ Lib.uvarint s.size).length ≤ 90000000000010 := by rw [List.length_append]; omega
  clear hu
  go_enter Try.func32, Try.ntmps32
  go_wp2_with (first
    | (go_at_call 31; refine (uvar_any s.size B v l _ (by omega) (by omega) hO hB (by omega)).mono ?_; rintro e w1 ⟨v1, rfl, hO1, hE1, hS1⟩; rw [Int.toNat_natCast] at hO1; have hsz := hE1.size)
    | (at_builtin; go_must (refine wpList_append_any _ rfl (.tmp 10) (.tmp 11) 36 9 rfl B 5 i0 (.int .u8 0) 1 1 Try.underlying36 hi hz0 hz1 hz2 rfl _ (l ++ Lib.uvarint s.size).length (bc (l ++ Lib.uvarint s.size)) rfl hO1 _ s.size (bc s.data.toList) rfl (Src.ofString _ Try.underlying9 s) (by unfold maxLen; omega) (by omega) (by omega) ?_); intro v3 w3 hown3 hext3 _ hst3))
  go_ret
  have hO3 : OB 5 B w3 v3 ((l ++ Lib.uvarint s.size) ++ s.data.toList) := OB.app hown3 (bytes_len s)
  refine ⟨_, rfl, ?_, hE1.trans hext3, hS1.still hO1 hext3 hst3⟩
  rw [List.append_assoc] at hO3
  exact hO3

/-- The i-th entry: the id, and its number where there are numbers. -/
def entry (num : Bool) (ss : List ByteArray) (zs : List Int) (i : Nat) : List UInt8 := encID (ss.getD i ByteArray.empty) ++ (if num = true then Lib.uvarint (zs.getD i 0).toNat else [])
/-- The first k entries. -/
def encTo (num : Bool) (ss : List ByteArray) (zs : List Int) : Nat → List UInt8
  | 0 => []
  | k + 1 => encTo num ss zs k ++ entry num ss zs k
/-- The whole list. -/
def enc (num : Bool) (ss : List ByteArray) (zs : List Int) : List UInt8 := Lib.uvarint ss.length ++ encTo num ss zs ss.length

/-- What is known of the ids and the numbers. -/
structure Fits (ss : List ByteArray) (zs : List Int) (num : Bool) : Prop where
  ids : ∀ i, (ss.getD i ByteArray.empty).size ≤ 1048576
  nums : ∀ i, 0 ≤ zs.getD i 0 ∧ zs.getD i 0 < 18446744073709551616
  len : ss.length ≤ 65536
  enough : num = true → ss.length ≤ zs.length

theorem Fits.entry_length {ss : List ByteArray} {zs : List Int} {num : Bool} (h : Fits ss zs num) (i : Nat) : (entry num ss zs i).length ≤ 1048600 := by
  unfold entry
  have h1 := encID_length _ (h.ids i)
  have h2 := h.ids i
  have h3 := h.nums i
  have h4 : (Lib.uvarint (zs.getD i 0).toNat).length ≤ 10 := Lib.uvarint_length64 (by omega)
  rw [List.length_append]
  split
  · omega
  · simp only [List.length_nil]; omega
theorem Fits.encTo_length {ss : List ByteArray} {zs : List Int} {num : Bool} (h : Fits ss zs num) : ∀ k, (encTo num ss zs k).length ≤ 1048600 * k
  | 0 => by simp [encTo]
  | k + 1 => by
    have h1 := h.encTo_length k
    have h2 := h.entry_length k
    simp only [encTo, List.length_append]
    omega

set_option maxHeartbeats 800000 in
theorem entries_some (B : Nat) (v : Value) (l : List UInt8) (ai : Option Addr) (ci : Nat) (ss : List ByteArray) (aa : Addr) (cn : Nat) (zs : List Int) (w : World)
    (hF : Fits ss zs true) (hO : OB 5 B w v l) (hB : B ≤ w.heap.size) (hlen : l.length ≤ 1000000000)
    (hI : View w ai (ss.map Value.string)) (hIne : ∀ b off, ai = some ⟨b, off, none⟩ → v.ownBlock ≠ some b)
    (hN : View w (some aa) (zs.map (Value.int .u64))) (hNne : ∀ b off, some aa = some ⟨b, off, none⟩ → v.ownBlock ≠ some b) :
    Calls Try.prog 23 #[v, .slice ai ss.length ci, .slice (some aa) zs.length cn] w fun e w' => ∃ v', e = .returned v' ∧ OB 5 B w' v' (l ++ enc true ss zs) ∧ Ext w w' v v' ∧ OB 5 B w' v l := by
  have hnn := fun (W : World) => run_neq_slice_nil_any (P := Try.prog) W 37 42 (some aa) zs.length cn 0 0 Try.underlying37
  have hl1 := hF.len
  have hen := hF.enough rfl
  go_enter Try.func23, Try.ntmps23
  go_wp2_with (first
    | (go_at_call 31; refine (uvar_any ss.length B v l _ (by omega) (by omega) hO hB (by omega)).mono ?_; rintro e w1 ⟨v1, rfl, hO1, hE1, hS1⟩; rw [Int.toNat_natCast] at hO1; have hsz := hE1.size))
  go_loopw [0, 16] (fun v2 i wr => ∃ k : Nat, k ≤ ss.length ∧ i = .int .i64 k ∧ OB 5 B wr v2 (l ++ (Lib.uvarint ss.length ++ encTo true ss zs k)) ∧ Ext w wr v v2 ∧ OB 5 B wr v l)
    (fun _ i _ => ss.length - (intOf i).toNat)
  case atStart => exact ⟨0, Nat.zero_le _, rfl, by simpa [encTo] using hO1, hE1, hS1⟩
  case round =>
    obtain ⟨k, hk, rfl, hO2, hE2, hS2⟩ := hrel
    by_cases hlt : k < ss.length
    · have hVI := hI.ext hE2 hIne
      obtain ⟨b, off, hab, hblt, hcell⟩ := hVI.at (j := k) (by simpa using hlt)
      subst hab
      obtain ⟨b2, off2, hab2, hb2lt, _⟩ := hN.at (j := k) (by simp; omega)
      cases hab2
      have hs := hF.ids k
      have hzb := hF.nums k
      have hE2b := hF.encTo_length k
      have hentry : entry true ss zs k = encID (ss.getD k ByteArray.empty) ++ Lib.uvarint (zs.getD k 0).toNat := by simp [entry]
      have hel := encID_length _ hs
      have HE : Hid (entry true ss zs k = encID (ss.getD k ByteArray.empty) ++ Lib.uvarint (zs.getD k 0).toNat) := hentry
      have hc1 : wr.cell? ⟨b, off + k, none⟩ = some (.string (ss.getD k ByteArray.empty)) := hcell k _ (by simp [List.getD, hlt])
      have hzk : (zs.map (Value.int .u64))[k]? = some (.int .u64 (zs.getD k 0)) := by simp [List.getD, show k < zs.length by omega]
      have hul := Lib.uvarint_length64 (x := ss.length) (by omega)
      have hll : (l ++ (Lib.uvarint ss.length ++ encTo true ss zs k)).length ≤ 80000000000000 := by simp only [List.length_append]; omega
      generalize ss.getD k ByteArray.empty = s at *
      generalize zs.getD k 0 = z at *
      have hll2 : (l ++ (Lib.uvarint ss.length ++ encTo true ss zs k) ++ encID s).length ≤ 85000000000000 := by rw [List.length_append]; omega
      obtain ⟨hz0, hz1⟩ := hzb
      have hsz2 := hE2.size
      have HZ : Hid ((zs.map (Value.int .u64))[k]? = some (.int .u64 z)) := hzk
      clear hzk hentry hcell hVI
      go_wp2_with (first
        | (go_at_call 32; refine (appendID_any s B _ _ _ hs hO2 (by omega) (by omega)).mono ?_; rintro e w3 ⟨v3, rfl, hO3, hE3, hS3⟩; have hE23 := hE2.trans hE3; have hc2 : w3.cell? ⟨b2, off2 + k, none⟩ = some (.int .u64 z) := by
            obtain ⟨b', off', hab', _, hcell2⟩ := (hN.ext hE23 hNne).at (j := k) (by simp; omega)
            cases hab'
            exact hcell2 k _ HZ.out)
        | (go_at_call 31; refine (uvar_any z B _ _ _ hz0 hz1 hO3 (by have := hE23.size; omega) (by omega)).mono ?_; rintro e w4 ⟨v4, rfl, hO4, hE4, hS4⟩))
      go_roundw
      case rel =>
        refine ⟨k + 1, by omega, by go_num, ?_, hE23.trans hE4, ?_⟩
        · rw [encTo, HE.out]
          simpa [List.append_assoc] using hO4
        · have h3 : OB 5 B w3 v l := hS2.still hO2 hE3 hS3
          rw [List.append_assoc] at hO3 hS4
          exact h3.still hO3 hE4 hS4
      case measure => simp [intOf]; omega
    · obtain rfl : k = ss.length := by omega
      go_wp2
      go_ret
      exact ⟨_, rfl, hO2, hE2, hS2⟩

set_option maxHeartbeats 800000 in
theorem entries_none (B : Nat) (v : Value) (l : List UInt8) (ai : Option Addr) (ci : Nat) (ss : List ByteArray) (cn : Nat) (zs : List Int) (w : World)
    (hF : Fits ss zs false) (hO : OB 5 B w v l) (hB : B ≤ w.heap.size) (hlen : l.length ≤ 1000000000)
    (hI : View w ai (ss.map Value.string)) (hIne : ∀ b off, ai = some ⟨b, off, none⟩ → v.ownBlock ≠ some b) :
    Calls Try.prog 23 #[v, .slice ai ss.length ci, .slice none zs.length cn] w fun e w' => ∃ v', e = .returned v' ∧ OB 5 B w' v' (l ++ enc false ss zs) ∧ Ext w w' v v' ∧ OB 5 B w' v l := by
  have hnn := fun (W : World) => run_neq_slice_nil_any (P := Try.prog) W 37 42 none zs.length cn 0 0 Try.underlying37
  have hl1 := hF.len
  go_enter Try.func23, Try.ntmps23
  go_wp2_with (first
    | (go_at_call 31; refine (uvar_any ss.length B v l _ (by omega) (by omega) hO hB (by omega)).mono ?_; rintro e w1 ⟨v1, rfl, hO1, hE1, hS1⟩; rw [Int.toNat_natCast] at hO1; have hsz := hE1.size))
  go_loopw [0, 16] (fun v2 i wr => ∃ k : Nat, k ≤ ss.length ∧ i = .int .i64 k ∧ OB 5 B wr v2 (l ++ (Lib.uvarint ss.length ++ encTo false ss zs k)) ∧ Ext w wr v v2 ∧ OB 5 B wr v l)
    (fun _ i _ => ss.length - (intOf i).toNat)
  case atStart => exact ⟨0, Nat.zero_le _, rfl, by simpa [encTo] using hO1, hE1, hS1⟩
  case round =>
    obtain ⟨k, hk, rfl, hO2, hE2, hS2⟩ := hrel
    by_cases hlt : k < ss.length
    · have hVI := hI.ext hE2 hIne
      obtain ⟨b, off, hab, hblt, hcell⟩ := hVI.at (j := k) (by simpa using hlt)
      subst hab
      have hs := hF.ids k
      have hE2b := hF.encTo_length k
      have hentry : entry false ss zs k = encID (ss.getD k ByteArray.empty) := by simp [entry]
      have hel := encID_length _ hs
      have HE : Hid (entry false ss zs k = encID (ss.getD k ByteArray.empty)) := hentry
      have hc1 : wr.cell? ⟨b, off + k, none⟩ = some (.string (ss.getD k ByteArray.empty)) := hcell k _ (by simp [List.getD, hlt])
      have hul := Lib.uvarint_length64 (x := ss.length) (by omega)
      have hll : (l ++ (Lib.uvarint ss.length ++ encTo false ss zs k)).length ≤ 80000000000000 := by simp only [List.length_append]; omega
      generalize ss.getD k ByteArray.empty = s at *
      have hsz2 := hE2.size
      clear hentry hcell hVI
      go_wp2_with (first
        | (go_at_call 32; refine (appendID_any s B _ _ _ hs hO2 (by omega) (by omega)).mono ?_; rintro e w3 ⟨v3, rfl, hO3, hE3, hS3⟩))
      go_roundw
      case rel =>
        refine ⟨k + 1, by omega, by go_num, ?_, hE2.trans hE3, hS2.still hO2 hE3 hS3⟩
        · rw [encTo, HE.out]
          simpa [List.append_assoc] using hO3
      case measure => simp [intOf]; omega
    · obtain rfl : k = ss.length := by omega
      go_wp2
      go_ret
      exact ⟨_, rfl, hO2, hE2, hS2⟩

end Go.Proofs.Qxb6003725a
