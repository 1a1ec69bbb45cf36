import Derived.Test.Qxb6003725aRows
import Derived.WalkKit
import Derived.WalkSpells
import Derived.WalkLawsBesides
namespace Go.Proofs.Qxb6003725a
open Go.RowKit

/-- The cells from k on are decimal digits. -/
def DigFrom (cs : Array Value) (k : Nat) : Prop := cs.size = 24 ∧ ∀ j, k ≤ j → j < 24 → ∃ d : Int, cs[j]? = some (.int .u8 d) ∧ 48 ≤ d ∧ d ≤ 57

def pow10 (k : Nat) : Nat := 10 ^ (k - 4)

theorem arrayLen70 : Try.prog.arrayLen 70 = 24 := by kernel_rfl
theorem pow10_step (x : Int) (m : Nat) (h : x < pow10 (m + 1)) (hm : 4 ≤ m) (_hx : 0 ≤ x) : x / 10 < pow10 m := by
  unfold pow10 at *
  have e : m + 1 - 4 = (m - 4) + 1 := by omega
  rw [e, Nat.pow_succ] at h
  generalize 10 ^ (m - 4) = p at *
  omega
theorem pow10_k (x : Int) (k : Nat) (h : x < pow10 k) (hx : k = 24 ∨ 0 < x) (hk : 4 ≤ k) : 5 ≤ k := by
  rcases Nat.lt_or_ge k 5 with h5 | h5
  · have : k = 4 := by omega
    subst this
    simp [pow10] at h
    omega
  · exact h5

/-- What lies from k on is a list of bytes whose first is a. -/
theorem bytes_from (cs : Array Value) (k : Nat) (hk : k < 24) (h : ∀ j, k ≤ j → j < 24 → ∃ d : Int, cs[j]? = some (.int .u8 d) ∧ 0 ≤ d ∧ d ≤ 255) :
    ∃ l : List UInt8, l.length = 24 - k ∧ ∀ j (hj : j < l.length), cs[k + j]? = some (.int .u8 (l[j].toNat : Int)) := by
  have g : ∀ j : Fin (24 - k), ∃ c : UInt8, cs[k + j.1]? = some (.int .u8 (c.toNat : Int)) := fun j => by
    obtain ⟨d, hd, d0, d1⟩ := h (k + j.1) (by omega) (by omega)
    refine ⟨UInt8.ofNat d.toNat, ?_⟩
    rw [hd]
    simp
    omega
  refine ⟨List.ofFn (fun j => Classical.choose (g j)), by simp, fun j hj => ?_⟩
  simp only [List.getElem_ofFn]
  exact Classical.choose_spec (g ⟨j, by simpa using hj⟩)

theorem dig_set (cs : Array Value) (m : Nat) (d : Int) (h : DigFrom cs (m + 1)) (hm : m < 24) (d0 : 48 ≤ d) (d1 : d ≤ 57) : DigFrom (cs.setIfInBounds m (.int .u8 d)) m := by
  obtain ⟨hs, hj⟩ := h
  refine ⟨by simpa using hs, fun j h1 h2 => ?_⟩
  by_cases e : j = m
  · subst e
    exact ⟨d, by simp [hs, h2], d0, d1⟩
  · rw [Array.getElem?_setIfInBounds_ne (by omega)]
    exact hj j (by omega) h2

/-- The first byte is a minus or a digit. -/
def NumHead (s : ByteArray) : Prop := ∃ (c : UInt8) (r : List UInt8), s.data.toList = c :: r ∧ (c = 45 ∨ (48 ≤ c.toNat ∧ c.toNat ≤ 57))

theorem slice70 (b m : Nat) (q : Int) (hq : q = m) (hm : m ≤ 23) (W : World) :
    (Instr.sliceAt 70 (.pointer (some ⟨b, 0, none⟩)) (some (.int .i64 q)) none none).run Try.prog W = .ok (.slice (some ⟨b, m, none⟩) (24 - m) (24 - m)) W := by
  subst hq
  have hs : (sizeOf 5).run Try.prog W = .ok 1 W := by kernel_rfl
  have he : Try.prog.elem 70 = 5 := by kernel_rfl
  rw [run_sliceAt_array_l (P := Try.prog) W 70 ⟨b, 0, none⟩ (by kernel_rfl) .i64 (m : Int) (by omega) (by rw [arrayLen70]; omega)]
  rw [he, hs, arrayLen70]
  simp [Result.andThen, slicedAt, Addr.add_lit, show ¬ 24 = m by omega]

theorem conv_buf (w : World) (cs : Array Value) (m : Nat) (l : List UInt8) (hl : l.length = 24 - m) (hc : ∀ j (hj : j < l.length), cs[m + j]? = some (.int .u8 (l[j].toNat : Int))) :
    (convert 36 9 (.slice (some ⟨w.heap.size, m, none⟩) (24 - m) (24 - m))).run Try.prog (w.alloc (.cells cs 70)) = .ok (.string ⟨l.toArray⟩) (w.alloc (.cells cs 70)) := by
  have := run_convert_bytes_back (P := Try.prog) (w.alloc (.cells cs 70)) 36 9 5 ⟨w.heap.size, m, none⟩ (24 - m) l Try.underlying36 Try.underlying5 Try.underlying9 (fun j hj => by
    rw [Addr.add_lit, World.cell?_alloc_mark]
    exact hc j hj)
  rw [hl] at this
  exact this

theorem head_of (cs : Array Value) (m : Nat) (d : Int) (l : List UInt8) (hm : m < 24) (hl : l.length = 24 - m) (hc : ∀ j (hj : j < l.length), cs[m + j]? = some (.int .u8 (l[j].toNat : Int)))
    (h : cs[m]? = some (.int .u8 d)) (hd : d = 45 ∨ (48 ≤ d ∧ d ≤ 57)) : NumHead ⟨l.toArray⟩ ∧ (⟨l.toArray⟩ : ByteArray).size ≤ 24 := by
  match l, hl, hc with
  | [], hl, _ => simp at hl; omega
  | c :: r, hl, hc =>
    have := hc 0 (by simp)
    simp only [Nat.add_zero, h] at this
    simp at this
    refine ⟨⟨c, r, by simp, ?_⟩, by simp [ByteArray.size] at *; omega⟩
    rcases hd with hd | hd
    · left
      apply UInt8.toNat_inj.1
      simp; omega
    · right; omega

set_option maxHeartbeats 400000 in
theorem itoa_neg (n : Int) (w : World) (_h0 : -9223372036854775808 ≤ n) (hn : n < 0) :
    Calls Try.prog 34 #[.int .i64 n] w fun e w' => ∃ s : ByteArray, e = .returned (.string s) ∧ s.size ≤ 24 ∧ NumHead s ∧ Below w.heap.size w w' := by
  have al := arrayLen70
  go_enter Try.func34, Try.ntmps34
  go_wp2
  go_loopw [3, 5] (fun u i wr => ∃ (k : Nat) (x : Int) (cs : Array Value), k ≤ 24 ∧ 4 ≤ k ∧ i = .int .i64 k ∧ u = .int .u64 x ∧ 0 ≤ x ∧ x < 18446744073709551616 ∧ x < pow10 k ∧ (k = 24 ∨ 0 < x) ∧ DigFrom cs k ∧ wr = w.alloc (.cells cs 70))
      (fun _ i _ => (intOf i).toNat)
  case atStart =>
    refine ⟨24, _, _, by omega, by omega, rfl, rfl, ?_, ?_, ?_, .inl rfl, ⟨rfl, fun j _ _ => by omega⟩, rfl⟩
    · simp only [IntKind.wrap_u64]; omega
    · simp only [IntKind.wrap_u64]; omega
    · have : pow10 24 = 100000000000000000000 := by decide
      rw [this]
      simp only [IntKind.wrap_u64]; omega
  case round =>
      obtain ⟨k, x, cs, hk1, hk2, rfl, rfl, hx0, hx1, hx2, hx3, hd, rfl⟩ := hrel
      have hk3 : 5 ≤ k := pow10_k x k hx2 hx3 hk2
      obtain ⟨m, rfl⟩ : ∃ m, k = m + 2 := ⟨k - 2, by omega⟩
      have hx4 := pow10_step x (m + 1) hx2 (by omega) hx0
      have hd1 := dig_set cs (m + 1) (48 + x % 10) hd (by omega) (by omega) (by omega)
      obtain ⟨v, hv⟩ : ∃ v, cs[m + 1]? = some v := ⟨_, Array.getElem?_eq_getElem (by have := hd.1; omega)⟩
      obtain ⟨v2, hv2⟩ : ∃ v2, (cs.setIfInBounds (m + 1) (.int .u8 (48 + x % 10)))[m]? = some v2 := ⟨_, Array.getElem?_eq_getElem (by have := hd1.1; omega)⟩
      have hsl := slice70 w.heap.size m (m + 2 - 1 - 1) (by omega) (by omega)
      have e45 : ((cs.setIfInBounds (m + 1) (.int .u8 (48 + x % 10))).setIfInBounds m (.int .u8 45))[m]? = some (.int .u8 45) := by
        have h24 : cs.size = 24 := hd.1
        rw [Array.getElem?_setIfInBounds_self_of_lt (by simp [h24]; omega)]
      obtain ⟨l, hl, hlc⟩ := bytes_from ((cs.setIfInBounds (m + 1) (.int .u8 (48 + x % 10))).setIfInBounds m (.int .u8 45)) m (by omega) (fun j h1 h2 => by
        by_cases e : j = m
        · subst e; exact ⟨45, e45, by omega, by omega⟩
        · obtain ⟨d, q1, q2, q3⟩ := hd1.2 j (by omega) h2
          exact ⟨d, by rw [Array.getElem?_setIfInBounds_ne (by omega)]; exact q1, by omega, by omega⟩)
      have hfin := head_of _ m 45 l (by omega) hl hlc e45 (.inl rfl)
      have HF : Hid (NumHead ⟨l.toArray⟩ ∧ (⟨l.toArray⟩ : ByteArray).size ≤ 24) := hfin
      have hcv := conv_buf w _ m l hl hlc
      clear hfin hlc hl e45
      go_wp2
      · go_ret
        exact ⟨_, rfl, HF.out.2, HF.out.1, (Below.refl _ _).alloc (Nat.le_refl _) _⟩
      · have hne : (x / 10 == 0) = false := by assumption
        have hne' : x / 10 ≠ 0 := by simpa using hne
        go_roundw
        case rel => exact ⟨m + 1, x / 10, _, by omega, by omega, by go_num, rfl, by omega, by omega, hx4, .inr (by omega), hd1, rfl⟩
        case measure => simp [intOf]; omega

set_option maxHeartbeats 400000 in
theorem itoa_pos (n : Int) (w : World) (h0 : n ≤ 9223372036854775807) (hn : 0 ≤ n) :
    Calls Try.prog 34 #[.int .i64 n] w fun e w' => ∃ s : ByteArray, e = .returned (.string s) ∧ s.size ≤ 24 ∧ NumHead s ∧ Below w.heap.size w w' := by
  have al := arrayLen70
  go_enter Try.func34, Try.ntmps34
  go_wp2
  go_loopw [3, 5] (fun u i wr => ∃ (k : Nat) (x : Int) (cs : Array Value), k ≤ 24 ∧ 4 ≤ k ∧ i = .int .i64 k ∧ u = .int .u64 x ∧ 0 ≤ x ∧ x < 18446744073709551616 ∧ x < pow10 k ∧ (k = 24 ∨ 0 < x) ∧ DigFrom cs k ∧ wr = w.alloc (.cells cs 70))
      (fun _ i _ => (intOf i).toNat)
  case atStart =>
    refine ⟨24, _, _, by omega, by omega, rfl, rfl, ?_, ?_, ?_, .inl rfl, ⟨rfl, fun j _ _ => by omega⟩, rfl⟩
    · omega
    · omega
    · have : pow10 24 = 100000000000000000000 := by decide
      rw [this]
      omega
  case round =>
      obtain ⟨k, x, cs, hk1, hk2, rfl, rfl, hx0, hx1, hx2, hx3, hd, rfl⟩ := hrel
      have hk3 : 5 ≤ k := pow10_k x k hx2 hx3 hk2
      obtain ⟨m, rfl⟩ : ∃ m, k = m + 1 := ⟨k - 1, by omega⟩
      have hx4 := pow10_step x m hx2 (by omega) hx0
      have hd1 := dig_set cs m (48 + x % 10) hd (by omega) (by omega) (by omega)
      obtain ⟨v, hv⟩ : ∃ v, cs[m]? = some v := ⟨_, Array.getElem?_eq_getElem (by have := hd.1; omega)⟩
      have hsl := slice70 w.heap.size m m rfl (by omega)
      obtain ⟨l, hl, hlc⟩ := bytes_from (cs.setIfInBounds m (.int .u8 (48 + x % 10))) m (by omega) (fun j h1 h2 => by
        obtain ⟨d, q1, q2, q3⟩ := hd1.2 j h1 h2
        exact ⟨d, q1, by omega, by omega⟩)
      have hfin := head_of _ m (48 + x % 10) l (by omega) hl hlc (by have h24 : cs.size = 24 := hd.1; rw [Array.getElem?_setIfInBounds_self_of_lt (by omega)]) (.inr (by omega))
      have HF : Hid (NumHead ⟨l.toArray⟩ ∧ (⟨l.toArray⟩ : ByteArray).size ≤ 24) := hfin
      have hcv := conv_buf w _ m l hl hlc
      clear h0 hfin hlc hl
      go_wp2
      · go_ret
        exact ⟨_, rfl, HF.out.2, HF.out.1, (Below.refl _ _).alloc (Nat.le_refl _) _⟩
      · have hne : (x / 10 == 0) = false := by assumption
        have hne' : x / 10 ≠ 0 := by simpa using hne
        go_roundw
        case rel => exact ⟨m, x / 10, _, by omega, by omega, by go_num, rfl, by omega, by omega, hx4, .inr (by omega), hd1, rfl⟩
        case measure => simp [intOf]

theorem itoa_any (n : Int) (w : World) (h0 : -9223372036854775808 ≤ n) (h1 : n ≤ 9223372036854775807) :
    Calls Try.prog 34 #[.int .i64 n] w fun e w' => ∃ s : ByteArray, e = .returned (.string s) ∧ s.size ≤ 24 ∧ NumHead s ∧ Below w.heap.size w w' := by
  by_cases hn : n < 0
  · exact itoa_neg n w h0 hn
  · exact itoa_pos n w h1 (by omega)

end Go.Proofs.Qxb6003725a
