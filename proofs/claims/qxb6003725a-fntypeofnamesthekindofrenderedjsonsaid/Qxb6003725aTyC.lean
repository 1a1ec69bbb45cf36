import Derived.Test.Qxb6003725aRows
import Derived.Test.Qxb6003725aKit
namespace Go.Proofs.Qxb6003725a
open Go.RowKit

theorem Try.info5 : (Try.prog.info? 5).map (fun i => (i.zero, i.size, i.bytes)) = some (some (.int .u8 0), 1, 1) := by kernel_rfl

/-- 'string(out)' of a row that the call owns, not empty. -/
theorem conv_row {B : Nat} {w : World} {v : Value} {l : List UInt8} (h : OB 5 B w v l) (hne : l ≠ []) :
    ∃ g cap N, v = .slice (some ⟨g, 0, none⟩) N cap ∧ (convert 36 9 (.slice (some ⟨g, 0, none⟩) N cap)).run Try.prog w = .ok (.string ⟨l.toArray⟩) w := by
  rcases h.form with ⟨_, rfl⟩ | ⟨g, cap, rfl, _⟩
  · exact absurd rfl hne
  · refine ⟨g, cap, l.length, rfl, ?_⟩
    exact run_convert_bytes_back (P := Try.prog) w 36 9 5 ⟨g, 0, none⟩ cap l Try.underlying36 Try.underlying5 Try.underlying9 (fun j hj => by
      rw [Addr.add_lit]; simpa using h.cell j hj)

theorem size_bytes (l : List UInt8) : (⟨l.toArray⟩ : ByteArray).size = l.length := rfl

/-- The first byte is a quote. -/
def QuoteHead (s : ByteArray) : Prop := ∃ r : List UInt8, s.data.toList = 34 :: r

set_option maxHeartbeats 400000 in
theorem quote_any (s : ByteArray) (w : World) (hs : s.size ≤ 65536) :
    Calls Try.prog 29 #[.string s] w fun e w' => ∃ t : ByteArray, e = .returned (.string t) ∧ t.size ≤ 6 * s.size + 2 ∧ QuoteHead t ∧ Below w.heap.size w w' := by
  obtain ⟨i0, hi, hz0, hz1, hz2⟩ := info_parts Try.info5
  go_enter Try.func29, Try.ntmps29
  go_wp2_with (first
    | (at_make; refine wpList_make_own _ rfl _ _ 36 rfl w.heap.size 5 i0 (.int .u8 0) 1 Try.underlying36 hi hz0 hz1 _ _ _ (6 * s.size + 2) rfl rfl (by omega) (by rw [hz2]; omega) (by unfold maxLen; omega) (Nat.le_refl _) ?_; intro w1 hown1 hgrow1; have hsz1 := hgrow1.size)
    | (at_builtin; go_must (refine wpList_append_any _ rfl (.tmp 11) (.tmp 12) 36 36 rfl w.heap.size 5 i0 (.int .u8 0) 1 1 Try.underlying36 hi hz0 hz1 hz2 rfl (.slice (some ⟨w.heap.size, 0, none⟩) 0 (6 * s.size + 2)) 0 [] rfl (hown1.alloc _) _ 1 (bc [34]) rfl (Src.lit w1 Try.underlying36 [34] _ 1 1 5 rfl rfl) (by decide) (by decide) (by simp; omega) ?_); intro v2 w2 hown2 hext2 _)
    | fail)
  have hb2 : Below w.heap.size w w2 := hext2.below (((Below.refl _ _).grown hgrow1 (Nat.le_refl _) (fun k h => by cases h)).alloc hsz1 _) (by simp; omega) (fun k h => by cases h; exact Nat.le_refl _)
  have hO2 : OB 5 w.heap.size w2 v2 ([] ++ [34]) := OB.of hown2 rfl rfl
  clear hown2 hext2 hown1 hgrow1 hsz1
  go_loopw [3, 4] (fun v i wr => ∃ (k : Nat) (l : List UInt8), k ≤ s.size ∧ i = .int .i64 k ∧ l.length ≤ 6 * k ∧ OB 5 w.heap.size wr v (34 :: l) ∧ Below w.heap.size w wr)
    (fun _ i _ => s.size - (intOf i).toNat)
  case atStart => exact ⟨0, [], Nat.zero_le _, rfl, by simp, hO2, hb2⟩
  case round =>
    obtain ⟨k, l, hk, rfl, hl, hO, hb⟩ := hrel
    have hlen : (34 :: l).length ≤ 6 * k + 1 := by simp; omega
    have hsz := hb.size
    by_cases hlt : k < s.size
    · go_wp2_with (first
          | (at_builtin; go_must (refine wpList_append_any _ rfl (.tmp 46) (.tmp 48) 36 36 rfl w.heap.size 5 i0 (.int .u8 0) 1 1 Try.underlying36 hi hz0 hz1 hz2 rfl _ (34 :: l).length (bc (34 :: l)) rfl (hO.alloc _) _ 1 (bc [s[k]]) rfl (Src.lit wr Try.underlying36 [s[k]] _ 1 1 5 rfl rfl) (by unfold maxLen; omega) (by omega) (by simp; omega) ?_); intro v3 w3 hown3 hext3 _)
          | fail)
      case roundEnd =>
        have hb3 : Below w.heap.size w w3 := hext3.below (hb.alloc hsz _) (by simp; omega) (fun k h => (hO.lt k h).1)
        have hO3 : OB 5 w.heap.size w3 v3 ((34 :: l) ++ [s[k]]) := OB.of hown3 (by simp) (by simp [bc])
        clear hown3 hext3 hO hb
        go_wp2
        go_roundw
        case rel => exact ⟨k + 1, l ++ [s[k]], by omega, by go_num, by simp; omega, hO3, hb3⟩
        case measure => simp [intOf]; omega
      all_goals
        have hu0 : (0 : Int) ≤ (s[k].toNat : Int) := by omega
        have hu : (s[k].toNat : Int) < 256 := by have := s[k].toNat_lt; omega
        generalize (s[k].toNat : Int) = z at *
        have q1 : z / 16 < 16 := by omega
        have q2 := u8_and15 (x := z) (by omega) hu
        have q3 : z % 16 < 16 := by omega
        go_region_held3 (fun _ => True) (trivial) ((refine step_append_any _ (by rfl) (.tmp 37) (.tmp 44) 36 36 (by rfl) w.heap.size 5 i0 (.int .u8 0) 1 1 Try.underlying36 hi hz0 hz1 hz2 rfl _ (34 :: l).length (bc (34 :: l)) (by rfl) ((hO.alloc _).drew) _ 6 (bc [92, 117, 48, 48, _, _]) (by rfl) (Src.litD wr Try.underlying36 [92, 117, 48, 48, _, _] _ 6 6 5 rfl rfl) (by unfold maxLen; omega) (by omega) (by simp; omega) ?_; intro v3 w3 hown3 hext3 _))
        all_goals
          have hb3 : Below w.heap.size w w3 := hext3.below ((hb.alloc hsz _).drew) (by simp; omega) (fun k h => (hO.lt k h).1)
          obtain ⟨m6, hm6, hO3⟩ : ∃ m : List UInt8, m.length = 6 ∧ OB 5 w.heap.size w3 v3 ((34 :: l) ++ m) := ⟨_, rfl, OB.of (l := 34 :: l) hown3 (by simp) (bc_append _ _).symm⟩
          clear hown3 hext3 hO hb
          go_wp2
          go_roundw
          case rel => exact ⟨k + 1, l ++ m6, by omega, by go_num, by simp; omega, hO3, hb3⟩
          case measure => simp [intOf]; omega
    · go_wp2_with (first
          | (at_builtin; go_must (refine wpList_append_any _ rfl (.tmp 50) (.tmp 51) 36 36 rfl w.heap.size 5 i0 (.int .u8 0) 1 1 Try.underlying36 hi hz0 hz1 hz2 rfl _ (34 :: l).length (bc (34 :: l)) rfl (hO.alloc _) _ 1 (bc [34]) rfl (Src.lit wr Try.underlying36 [34] _ 1 1 5 rfl rfl) (by unfold maxLen; omega) (by omega) (by simp; omega) ?_); intro v3 w3 hown3 hext3 _; have hO3 := OB.of (l := 34 :: l) (m := [34]) hown3 (by simp) (bc_append _ _).symm; have hb3 : Below w.heap.size w w3 := hext3.below (hb.alloc hsz _) (by simp; omega) (fun k h => (hO.lt k h).1); obtain ⟨g3, cap3, n3, hv3, hcv⟩ := conv_row hO3 (by simp); subst hv3; clear hown3 hext3)
          | fail)
      go_ret
      exact ⟨_, rfl, by rw [size_bytes]; simp only [List.length_append, List.length_cons, List.length_nil] at *; omega, ⟨l ++ [34], by simp⟩, hb3⟩

end Go.Proofs.Qxb6003725a
