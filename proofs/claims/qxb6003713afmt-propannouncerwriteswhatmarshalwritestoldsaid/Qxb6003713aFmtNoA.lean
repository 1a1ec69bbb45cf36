import Derived.Test.Qxb6003713aFmtMsgA
import Derived.Deep.QuietTactic
import Derived.BigQuiet
namespace Go.Proofs.Qxb6003713aFmt
open Go.RowKit

set_option maxHeartbeats 1000000 in
theorem marshal_any (c s : Int) (ao : Option Addr) (cap : Nat) (l : List UInt8) (w : World) (hc0 : 0 ≤ c) (hc : c < 256) (hs0 : 0 ≤ s) (hs : s < 256) (hlen : l.length ≤ 4075) (hV : View w ao (bc l)) (hnil : ao = none → l = []) :
    Calls Tryf.prog 7 #[.agg #[.int .u8 c, .int .u8 s, .slice ao l.length cap]] w fun e w' => ∃ v', e = .returned v' ∧ OB 5 w.heap.size w' v' (msg 3 ([by8 c, by8 s] ++ l)) ∧ Below w.heap.size w w' := by
  obtain ⟨i0, hi, hz0, hz1, hz2⟩ := info_parts Tryf.info5
  have HV : Hid (View w ao (bc l)) := hV
  have HNil : Hid (ao = none → l = []) := hnil
  have HB : Hid (bc [by8 c, by8 s] = [Value.int .u8 c, Value.int .u8 s]) := by
    show [Value.int .u8 _, Value.int .u8 _] = _
    rw [by8_nat c hc0 hc, by8_nat s hs0 hs]
  clear hV hnil
  go_enter Tryf.func7, Tryf.ntmps7
  go_wp2_with (first
    | (at_builtin; go_must (refine wpList_append_any _ rfl (.tmp 7) (.tmp 9) 23 23 rfl w.heap.size 5 i0 (.int .u8 0) 1 1 Tryf.underlying23 hi hz0 hz1 hz2 rfl _ 2 (bc [by8 c, by8 s]) rfl (OB.lit _ 5 w.heap.size (w.heap.size + 1) _ [by8 c, by8 s] 2 (by simp) (by simp) (by rw [HB.out]) rfl (by decide)) _ l.length (bc l) rfl (Src.view _ Tryf.underlying23 ao l cap ((HV.out.alloc _).alloc _) HNil.out) (by unfold maxLen; omega) (by omega) (by simp; omega) ?_); intro v1 w1 hown1 hext1 hnil1 _; have hO1 : OB 5 w.heap.size w1 v1 ([by8 c, by8 s] ++ l) := OB.app hown1 rfl; have hb1 : Below w.heap.size w w1 := hext1.below (((Below.refl _ _).alloc (Nat.le_refl _) _).alloc (by simp) _) (by simp; omega) (fun k h => by cases h; simp); have hsz1 := hb1.size; clear hown1 hext1 hnil1; obtain ⟨a1, c1, rfl, hV1, hl1, _, _, hn1, _⟩ := View.own hO1)
    | (go_at_call 26; go_must (refine (message_any 3 a1 c1 ([by8 c, by8 s] ++ l) w1 (by omega) (by omega) (by simp; omega) hV1 (fun h => by have := (hn1 h).1; simp at this)).mono ?_); rintro e w2 ⟨v2, rfl, hO2, hb2⟩))
  go_ret
  exact ⟨_, rfl, hO2.base (fun k h => Nat.le_trans hsz1 (hO2.lt k h).1), hb1.trans (hb2.mono hsz1)⟩

set_option maxHeartbeats 400000 in
theorem hasMarker_yes (b off n cap : Nat) (w : World) (hn : 16 ≤ n) (hnc : n ≤ cap) (hc : cap ≤ maxLen) (hm : ∀ k, k < 16 → w.cell? ⟨b, off + k, none⟩ = some (.int .u8 255)) :
    Calls Tryf.prog 24 #[.slice (some ⟨b, off, none⟩) n cap] w fun e w' => e = .returned (.bool true) ∧ w' = w := by
  unfold maxLen at hc
  have i1 : (16 : Int) ≤ (cap : Int) := by omega
  have hcne : ¬ cap = 0 := by omega
  have HM : Hid (∀ k, k < 16 → w.cell? ⟨b, off + k, none⟩ = some (.int .u8 255)) := hm
  clear hm
  go_enter Tryf.func24, Tryf.ntmps24
  go_wp2
  go_loop [8] (fun i => ∃ k : Nat, k ≤ 16 ∧ i = .int .i64 k) (fun i => 16 - (intOf i).toNat)
  case atStart => exact ⟨0, Nat.zero_le _, rfl⟩
  case round =>
    obtain ⟨k, hk, rfl⟩ := hrel
    by_cases hlt : k < 16
    · have hcell := HM.out k hlt
      have j1 : (k : Int) < 16 := by omega
      go_wp2
      go_round
      case rel => exact ⟨k + 1, by omega, by go_num⟩
      case measure => simp [intOf]; omega
    · go_wp2
      go_ret
      exact ⟨rfl, rfl⟩

theorem u16_join (hi lo : Int) (h0 : 0 ≤ hi) (h1 : hi < 256) (l0 : 0 ≤ lo) (l1 : lo < 256) : bits .or .u16 lo (hi * 256) = hi * 256 + lo := by
  obtain ⟨a, rfl⟩ := Int.eq_ofNat_of_zero_le h0
  obtain ⟨b, rfl⟩ := Int.eq_ofNat_of_zero_le l0
  have e : ((a : Int) * 256) = ((a * 256 : Nat) : Int) := by omega
  rw [e, u16_or_nat b (a * 256) (by omega) (by omega), Nat.or_comm, nat_join 8 (a * 256) b (by omega) (by omega)]
  omega

set_option maxHeartbeats 400000 in
theorem uint16_any (b off n cap : Nat) (hi lo : Int) (w : World) (hn : 2 ≤ n) (h0 : 0 ≤ hi) (h1 : hi < 256) (l0 : 0 ≤ lo) (l1 : lo < 256) (hc0 : w.cell? ⟨b, off, none⟩ = some (.int .u8 hi)) (hc1 : w.cell? ⟨b, off + 1, none⟩ = some (.int .u8 lo)) :
    Calls Tryf.prog 25 #[.agg #[], .slice (some ⟨b, off, none⟩) n cap] w fun e w' => e = .returned (.int .u16 (hi * 256 + lo)) ∧ Below w.heap.size w w' := by
  have i1 : (1 : Int) < (n : Int) := by omega
  have i0 : (0 : Int) < (n : Int) := by omega
  have hb1 : b < w.heap.size := World.block_lt_of_cell? w _ hc0
  have d0 : (w.alloc (.cells #[] 106)).cell? ⟨b, off, none⟩ = some (.int .u8 hi) := (World.cell?_of_block (w := w) (Below.heap_alloc w _ b hb1)).trans hc0
  have d1 : (w.alloc (.cells #[] 106)).cell? ⟨b, off + 1, none⟩ = some (.int .u8 lo) := (World.cell?_of_block (w := w) (Below.heap_alloc w _ b hb1)).trans hc1
  have hj := u16_join hi lo h0 h1 l0 l1
  go_enter Tryf.func25, Tryf.ntmps25
  go_wp2_with fail
  go_quiet (fail)
  go_wp2
  go_ret
  exact ⟨rfl, below_drewN ((Below.refl _ _).alloc (Nat.le_refl _) _) _⟩

theorem msg_length (t : Int) (l : List UInt8) : (msg t l).length = 19 + l.length := by simp [msg, mark, be16]; omega
theorem msg_mark (t : Int) (l : List UInt8) (k : Nat) (hk : k < 16) : (bc (msg t l))[k]? = some (.int .u8 255) := by
  have h1 : (mark 16)[k]? = some 255 := List.getElem?_replicate_of_lt hk
  unfold msg
  rw [List.append_assoc, List.append_assoc, bc, List.getElem?_map, List.getElem?_append_left (by simp [mark, hk]), h1]
  rfl
theorem msg_at16 (t : Int) (l : List UInt8) : (msg t l)[16]? = some (by8 ((19 + l.length : Int) / 256)) := by
  unfold msg
  rw [List.append_assoc, List.append_assoc, List.getElem?_append_right (by simp [mark])]
  simp [mark, be16]
theorem msg_at17 (t : Int) (l : List UInt8) : (msg t l)[17]? = some (by8 ((19 + l.length : Int) % 256)) := by
  unfold msg
  rw [List.append_assoc, List.append_assoc, List.getElem?_append_right (by simp [mark])]
  simp [mark, be16]
theorem msg_at18 (t : Int) (l : List UInt8) : (msg t l)[18]? = some (by8 t) := by
  unfold msg
  rw [List.append_assoc, List.append_assoc, List.getElem?_append_right (by simp [mark])]
  simp [mark, be16]
theorem msg_body (t : Int) (l : List UInt8) (j : Nat) : (msg t l)[19 + j]? = l[j]? := by
  unfold msg
  rw [List.getElem?_append_right (by simp [mark, be16])]
  simp [mark, be16]
theorem bc_of {l : List UInt8} {k : Nat} {c : UInt8} (h : l[k]? = some c) : (bc l)[k]? = some (.int .u8 (c.toNat : Int)) := by simp [bc, h]

theorem below_of_drew {B : Nat} {w w' : World} (h : Below B w.drew w') : Below B w w' := ⟨h.os, h.tape, h.output, h.size, h.block⟩

set_option maxHeartbeats 1000000 in
theorem parseMessage_any (b off cap : Nat) (t : Int) (l : List UInt8) (w : World) (ht0 : 0 ≤ t) (ht : t < 256) (hl : 1 ≤ l.length) (hlen : l.length ≤ 60000) (hnc : 19 + l.length ≤ cap) (hcap : cap ≤ maxLen) (hM : ∀ j u, (bc (msg t l))[j]? = some u → w.cell? ⟨b, off + j, none⟩ = some u) :
    Calls Tryf.prog 6 #[.slice (some ⟨b, off, none⟩) (19 + l.length) cap] w fun e w' => e = .returned (.tuple #[.int .u8 t, .slice (some ⟨b, off + 19, none⟩) l.length (cap - 19), .nilIface]) ∧ Below w.heap.size w w' := by
  unfold maxLen at hcap
  have hmk : ∀ k, k < 16 → w.cell? ⟨b, off + k, none⟩ = some (.int .u8 255) := fun k hk => hM k _ (msg_mark t l k hk)
  have h16 : w.cell? ⟨b, off + 16, none⟩ = some (.int .u8 ((19 + l.length : Int) / 256)) := by
    rw [hM 16 _ (bc_of (msg_at16 t l)), by8_nat _ (by omega) (by omega)]
  have h17 : w.cell? ⟨b, off + 16 + 1, none⟩ = some (.int .u8 ((19 + l.length : Int) % 256)) := by
    rw [show off + 16 + 1 = off + 17 by omega, hM 17 _ (bc_of (msg_at17 t l)), by8_nat _ (by omega) (by omega)]
  have h18 : w.cell? ⟨b, off + 18, none⟩ = some (.int .u8 t) := by
    rw [hM 18 _ (bc_of (msg_at18 t l)), by8_nat _ (by omega) (by omega)]
  have hblt : b < w.heap.size := World.block_lt_of_cell? w _ h16
  have i1 : (16 : Int) ≤ 19 + (l.length : Int) := by omega
  have i2 : (18 : Int) < 19 + (l.length : Int) := by omega
  have i3 : (19 : Int) ≤ 19 + (l.length : Int) := by omega
  have c1 : ¬ cap = 16 := by omega
  have c2 : ¬ cap = 19 := by omega
  have HM : Hid (∀ k, k < 16 → w.cell? ⟨b, off + k, none⟩ = some (.int .u8 255)) := hmk
  have H16 : Hid (w.cell? ⟨b, off + 16, none⟩ = some (.int .u8 ((19 + l.length : Int) / 256))) := h16
  have H17 : Hid (w.cell? ⟨b, off + 16 + 1, none⟩ = some (.int .u8 ((19 + l.length : Int) % 256))) := h17
  clear hM hmk h16 h17
  go_enter Tryf.func6, Tryf.ntmps6
  go_wp2_with (go_at_call 24; go_must (refine (hasMarker_yes b off (19 + l.length) cap w (by omega) hnc (by unfold maxLen; omega) HM.out).mono ?_); rintro e w1 ⟨rfl, rfl⟩)
  go_region_held3 (fun _ => True) (trivial) ((go_at_call 25; refine (uint16_any b (off + 16) _ _ ((19 + l.length : Int) / 256) ((19 + l.length : Int) % 256) _ (by omega) (by omega) (by omega) (by omega) (by omega) (by exact H16.out) (by exact H17.out)).mono ?_; rintro e w2 ⟨rfl, hb2⟩))
  have hsum : (19 + (l.length : Int)) / 256 * 256 + (19 + (l.length : Int)) % 256 = 19 + (l.length : Int) := by omega
  all_goals
    have g18 : w2.cell? ⟨b, off + 18, none⟩ = some (.int .u8 t) := (hb2.cell (p := ⟨b, off + 18, none⟩) (by simpa using hblt)).trans h18
    go_wp2
    go_quiet (fail)
    go_wp2
    go_ret3
    exact ⟨rfl, below_drewN (below_of_drew hb2) _⟩

/-- Reads slices of one length, cell by cell. -/
theorem sameBytes_any (a1 a2 : Option Addr) (c1 c2 : Nat) (l : List UInt8) (w : World) (hlen : l.length ≤ 1000000) (h1 : View w a1 (bc l)) (h2 : View w a2 (bc l)) :
    Calls Tryf.prog 9 #[.slice a1 l.length c1, .slice a2 l.length c2] w fun e w' => e = .returned (.bool true) ∧ ∃ nq, w' = w.drewN nq := by
  have H1 : Hid (View w a1 (bc l)) := h1
  have H2 : Hid (View w a2 (bc l)) := h2
  clear h1 h2
  generalize hn : l.length = n at *
  have HN : Hid (l.length = n) := hn
  clear hn
  go_enter Tryf.func9, Tryf.ntmps9
  go_wp2
  go_loopw [5] (fun i wr => ∃ (k nq : Nat), k ≤ n ∧ i = .int .i64 k ∧ wr = w.drewN nq) (fun i _ => n - (intOf i).toNat)
  case atStart => exact ⟨0, 0, Nat.zero_le _, rfl, rfl⟩
  case round =>
    obtain ⟨k, nq, hk, rfl, rfl⟩ := hrel
    by_cases hlt : k < n
    · obtain ⟨b1, o1, q1, _, hc1⟩ := H1.out.at (j := k) (by rw [bc_length, HN.out]; omega)
      cases q1
      obtain ⟨b2, o2, q2, _, hc2⟩ := H2.out.at (j := k) (by rw [bc_length, HN.out]; omega)
      cases q2
      obtain ⟨z, hz⟩ : ∃ z : Int, (bc l)[k]? = some (.int .u8 z) := ⟨_, bc_get l k (by rw [HN.out]; omega)⟩
      have d1 := hc1 k _ hz
      have d2 := hc2 k _ hz
      have i1 : (0 : Int) ≤ (k : Int) := by omega
      have i2 : (k : Int) < (n : Int) := by omega
      clear hc1 hc2 hz
      go_wp2_with fail
      go_quiet (fail)
      go_wp2
      go_roundw
      case rel => exact ⟨k + 1, _, by omega, by go_num, rfl⟩
      case measure => simp [intOf]; omega
    · go_wp2
      go_ret
      exact ⟨rfl, nq, rfl⟩

set_option maxHeartbeats 400000 in
theorem keepalive_any (w : World) :
    Calls Tryf.prog 10 #[] w fun e w' => ∃ v', e = .returned v' ∧ OB 5 w.heap.size w' v' (msg 4 []) ∧ Below w.heap.size w w' := by
  go_enter Tryf.func10, Tryf.ntmps10
  go_wp2_with (go_at_call 26; go_must (refine (message_any 4 none 0 [] w (by omega) (by omega) (by simp) (View.nil _ _) (fun _ => rfl)).mono ?_); rintro e w2 ⟨v2, rfl, hO2, hb2⟩)
  go_ret
  exact ⟨_, rfl, hO2, hb2⟩

end Go.Proofs.Qxb6003713aFmt
