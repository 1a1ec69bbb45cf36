import Derived.Test.Qxb6003725aTyA
import Derived.Test.Qxb6003725aTyB
import Derived.Test.Qxb6003725aTyC
namespace Go.Proofs.Qxb6003725a
open Go.RowKit

/-- What typeOf says of a first byte. -/
def tyOf (c : Int) : Int := if c = 110 then 0 else if c = 116 then 1 else if c = 102 then 1 else if c = 34 then 3 else if c = 91 then 4 else if c = 123 then 5 else 2

/-- The text opens with a byte of which typeOf says k. -/
def HeadKind (k : Int) (s : ByteArray) : Prop := ∃ (c : UInt8) (r : List UInt8), s.data.toList = c :: r ∧ tyOf (c.toNat : Int) = k

theorem HeadKind.num {s : ByteArray} (h : NumHead s) : HeadKind 2 s := by
  obtain ⟨c, r, e, h⟩ := h
  refine ⟨c, r, e, ?_⟩
  have : (c.toNat : Int) = 45 ∨ (48 ≤ (c.toNat : Int) ∧ (c.toNat : Int) ≤ 57) := by
    rcases h with h | h
    · left; subst h; rfl
    · right; omega
  unfold tyOf
  repeat (rw [if_neg (by omega)])
theorem HeadKind.quote {s : ByteArray} (h : QuoteHead s) : HeadKind 3 s := by
  obtain ⟨r, e⟩ := h
  exact ⟨34, r, e, by decide⟩
theorem HeadKind.app {k : Int} {s : ByteArray} (h : HeadKind k s) (t : ByteArray) : HeadKind k (s ++ t) := by
  obtain ⟨c, r, e, h⟩ := h
  exact ⟨c, r ++ t.data.toList, by simp [ByteArray.data_append, e], h⟩

set_option maxHeartbeats 400000 in
theorem typeOf_any (b off n cap : Nat) (c : Int) (hn : 0 < n) (w : World) (hc : w.cell? ⟨b, off, none⟩ = some (.int .u8 c)) :
    Calls Try.prog 30 #[.slice (some ⟨b, off, none⟩) n cap] w fun e w' => e = .returned (.int .i64 (tyOf c)) ∧ w' = w := by
  have h0 : (0 : Int) < (n : Int) := by omega
  by_cases c1 : c = 110
  · subst c1; go_enter Try.func30, Try.ntmps30; go_wp2; go_ret; exact ⟨rfl, rfl⟩
  by_cases c2 : c = 116
  · subst c2; go_enter Try.func30, Try.ntmps30; go_wp2; go_ret; exact ⟨rfl, rfl⟩
  by_cases c3 : c = 102
  · subst c3; go_enter Try.func30, Try.ntmps30; go_wp2; go_ret; exact ⟨rfl, rfl⟩
  by_cases c4 : c = 34
  · subst c4; go_enter Try.func30, Try.ntmps30; go_wp2; go_ret; exact ⟨rfl, rfl⟩
  by_cases c5 : c = 91
  · subst c5; go_enter Try.func30, Try.ntmps30; go_wp2; go_ret; exact ⟨rfl, rfl⟩
  by_cases c6 : c = 123
  · subst c6; go_enter Try.func30, Try.ntmps30; go_wp2; go_ret; exact ⟨rfl, rfl⟩
  have e : tyOf c = 2 := by unfold tyOf; simp [*]
  have E : Hid (tyOf c = 2) := e
  clear e
  have d1 : (c == 110) = false := by simpa using c1
  have d2 : (c == 116) = false := by simpa using c2
  have d3 : (c == 102) = false := by simpa using c3
  have d4 : (c == 34) = false := by simpa using c4
  have d5 : (c == 91) = false := by simpa using c5
  have d6 : (c == 123) = false := by simpa using c6
  go_enter Try.func30, Try.ntmps30
  go_wp2
  go_ret
  exact ⟨by rw [E.out]; rfl, rfl⟩

set_option maxHeartbeats 400000 in
theorem zzTypeOf_any (b off n cap : Nat) (c : Int) (hn : 0 < n) (w : World) (hc : w.cell? ⟨b, off, none⟩ = some (.int .u8 c)) :
    Calls Try.prog 17 #[.slice (some ⟨b, off, none⟩) n cap] w fun e w' => e = .returned (.int .i64 (tyOf c)) ∧ w' = w := by
  go_enter Try.func17, Try.ntmps17
  go_wp2_with (go_at_call 30; refine (typeOf_any b off n cap c hn _ hc).mono ?_; rintro e w' ⟨rfl, rfl⟩)
  go_ret
  exact ⟨rfl, rfl⟩

/-- A kind that is one of six. -/
def Six (k : Int) : Prop := k = 0 ∨ k = 1 ∨ k = 2 ∨ k = 3 ∨ k = 4 ∨ k = 5

set_option maxHeartbeats 800000 in
theorem scalar_any (k n : Int) (f b : Bool) (s : ByteArray) (hk : Six k) (h0 : -9223372036854775808 ≤ n) (h1 : n ≤ 9223372036854775807) (hs : s.size ≤ 65536) (w : World) :
    Calls Try.prog 28 #[.int .i64 k, .int .i64 n, .bool f, .bool b, .string s] w fun e w' => ∃ t : ByteArray, e = .returned (.string t) ∧ t.size ≤ 6 * s.size + 40 ∧ HeadKind k t ∧ Below w.heap.size w w' := by
  rcases hk with rfl | rfl | rfl | rfl | rfl | rfl
  · go_enter Try.func28, Try.ntmps28
    go_wp2
    go_ret
    exact ⟨_, rfl, by show 4 ≤ _; omega, ⟨110, [117, 108, 108], rfl, rfl⟩, Below.refl _ _⟩
  · cases b
    · go_enter Try.func28, Try.ntmps28
      go_wp2
      go_ret
      exact ⟨_, rfl, by show 5 ≤ _; omega, ⟨102, [97, 108, 115, 101], rfl, rfl⟩, Below.refl _ _⟩
    · go_enter Try.func28, Try.ntmps28
      go_wp2
      go_ret
      exact ⟨_, rfl, by show 4 ≤ _; omega, ⟨116, [114, 117, 101], rfl, rfl⟩, Below.refl _ _⟩
  · cases f
    · go_enter Try.func28, Try.ntmps28
      go_wp2_with (go_at_call 34; refine (itoa_any n _ h0 h1).mono ?_; rintro e w' ⟨t, rfl, ht, hd, hb⟩)
      go_ret
      exact ⟨_, rfl, by omega, HeadKind.num hd, hb⟩
    · go_enter Try.func28, Try.ntmps28
      go_wp2_with (go_at_call 34; refine (itoa_any n _ h0 h1).mono ?_; rintro e w' ⟨t, rfl, ht, hd, hb⟩)
      go_ret
      have e6 : (⟨#[46, 50, 53, 101, 45, 51]⟩ : ByteArray).size = 6 := rfl
      exact ⟨_, rfl, by rw [ByteArray.size_append, e6]; omega, (HeadKind.num hd).app _, hb⟩
  · go_enter Try.func28, Try.ntmps28
    go_wp2_with (go_at_call 29; refine (quote_any s _ hs).mono ?_; rintro e w' ⟨t, rfl, ht, hd, hb⟩)
    go_ret
    exact ⟨_, rfl, by omega, HeadKind.quote hd, hb⟩
  · go_enter Try.func28, Try.ntmps28
    go_wp2
    go_ret
    exact ⟨_, rfl, by show 2 ≤ _; omega, ⟨91, [93], rfl, rfl⟩, Below.refl _ _⟩
  · go_enter Try.func28, Try.ntmps28
    go_wp2
    go_ret
    exact ⟨_, rfl, by show 2 ≤ _; omega, ⟨123, [125], rfl, rfl⟩, Below.refl _ _⟩

theorem HeadKind.cons {k : Int} (c : UInt8) (h : tyOf (c.toNat : Int) = k) (t : ByteArray) : HeadKind k (⟨#[c]⟩ ++ t) :=
  ⟨c, t.data.toList, by simp [ByteArray.data_append], h⟩

set_option maxHeartbeats 800000 in
theorem render_any (k i n : Int) (f b : Bool) (s : ByteArray) (hk : Six k) (hi : Six i) (h0 : -9223372036854775808 ≤ n) (h1 : n ≤ 9223372036854775807) (hs : s.size ≤ 65536) (w : World) :
    Calls Try.prog 16 #[.int .i64 k, .int .i64 i, .int .i64 n, .bool f, .bool b, .string s] w fun e w' => ∃ t : ByteArray, e = .returned (.string t) ∧ HeadKind k t ∧ Below w.heap.size w w' := by
  by_cases h4 : k = 4
  · subst h4
    go_enter Try.func16, Try.ntmps16
    go_wp2_with (go_at_call 28; refine (scalar_any i n f b s hi h0 h1 hs _).mono ?_; rintro e w' ⟨t, rfl, ht, hd, hb⟩)
    go_ret
    exact ⟨_, rfl, (HeadKind.cons 91 (by decide) _).app _, hb⟩
  by_cases h5 : k = 5
  · subst h5
    go_enter Try.func16, Try.ntmps16
    go_wp2_with (first
      | (go_at_call 29; refine (quote_any s _ hs).mono ?_; rintro e w' ⟨t, rfl, ht, hd, hb⟩)
      | (go_at_call 28; refine (scalar_any i n f b s hi h0 h1 hs _).mono ?_; rintro e w2 ⟨t2, rfl, ht2, hd2, hb2⟩))
    go_ret
    exact ⟨_, rfl, (((HeadKind.cons 123 (by decide) _).app _).app _).app _, hb.trans (hb2.mono hb.size)⟩
  have d4 : (k == 4) = false := by simpa using h4
  have d5 : (k == 5) = false := by simpa using h5
  go_enter Try.func16, Try.ntmps16
  go_wp2_with (go_at_call 28; refine (scalar_any k n f b s hk h0 h1 hs _).mono ?_; rintro e w' ⟨t, rfl, ht, hd, hb⟩)
  go_ret
  exact ⟨_, rfl, hd, hb⟩

end Go.Proofs.Qxb6003725a
