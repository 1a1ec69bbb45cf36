import Derived.Test.Qxb6003725aTyD
import Derived.ProofKit
import Derived.OpenShut
import Derived.ShutString
import Derived.ChangeOld
namespace Go.Proofs.Qxb6003725a.fnTypeOfNamesTheKindOfRenderedJSON
open Go.ChangeShapes Go.WideShapes Go.ChangeAt Go.RowKit
open Go.ChangeMaps (open_string shut_string)

theorem own : ownKnob Try.prog.godebug = none := by kernel_rfl

theorem first_cell (w : World) (s : ByteArray) (k : Int) (h : HeadKind k s) (cap : Nat) (fr : Nat × Nat) :
    0 < s.size ∧ ∃ c : Int, tyOf c = k ∧ ((w.alloc (.cells (bytesRow s cap) 5 fr)).cell? ⟨w.heap.size, 0, none⟩ = some (.int .u8 c)) := by
  obtain ⟨c, r, e, h⟩ := h
  have hs : 0 < s.data.size := by rw [← Array.length_toList, e]; simp
  refine ⟨hs, _, h, ?_⟩
  rw [World.cell?_alloc_mark, bytesRow_at s cap 0 hs]
  have : s.data[0] = c := by
    have h2 : s.data.toList[0]? = some c := by rw [e]; rfl
    rw [Array.getElem?_toList, Array.getElem?_eq_getElem hs] at h2
    exact Option.some.inj h2
  rw [this]

set_option maxHeartbeats 800000 in
theorem walk_six (k i n : Int) (f b : Bool) (s : ByteArray) (hk : Six k) (hi : Six i) (h0 : -9223372036854775808 ≤ n) (h1 : n ≤ 9223372036854775807) (hs : s.size ≤ 65536) (w : World) :
    Calls Try.prog 4 #[.int .i64 k, .int .i64 i, .int .i64 n, .bool f, .bool b, .string s] w fun e w' => e = .returned (.bool true) ∧ Below w.heap.size w w' := by
  have hk0 : 0 ≤ k ∧ k ≤ 5 := by unfold Six at hk; omega
  have hi0 : 0 ≤ i ∧ i ≤ 5 := by unfold Six at hi; omega
  obtain ⟨hka, hkb⟩ := hk0
  obtain ⟨hia, hib⟩ := hi0
  have hcv := fun (W : World) (t : ByteArray) => run_bytes_of_string (P := Try.prog) W 9 36 5 t Try.underlying9 Try.underlying36 Try.underlying5
  go_enter Try.func4, Try.ntmps4
  go_wp2_with (first
    | (go_at_call 15; refine (bytes15_yes k i n f b s _ (by omega)).mono ?_; rintro e w' ⟨rfl, rfl⟩)
    | (go_at_call 16; refine (render_any k i n f b s hk hi h0 h1 hs _).mono ?_; rintro e w2 ⟨t, rfl, hd, hb⟩))
  obtain ⟨hp, c, hty, hcell⟩ := first_cell w2 t k hd (grownCap w2 t.size 0 5) ((bytesRow t (grownCap w2 t.size 0 5)).size, (bytesRow t (grownCap w2 t.size 0 5)).size + 1)
  refine (zzTypeOf_any w2.heap.size 0 t.size (grownCap w2 t.size 0 5) c hp _ (by exact hcell)).mono ?_
  rintro e w3 ⟨rfl, rfl⟩
  rw [hty]
  go_wp2
  go_ret
  exact ⟨by simp, ((hb.trans ((Below.refl _ _).alloc hb.size _)).drew)⟩

set_option maxHeartbeats 800000 in
theorem walk_any (k i n : Int) (f b : Bool) (s : ByteArray) (h0 : -9223372036854775808 ≤ n) (h1 : n ≤ 9223372036854775807) (hs : s.size ≤ maxLen) (w : World) :
    Calls Try.prog 4 #[.int .i64 k, .int .i64 i, .int .i64 n, .bool f, .bool b, .string s] w fun e w' => e = .returned (.bool true) ∧ Below w.heap.size w w' := by
  unfold maxLen at hs
  by_cases hz : s.size ≤ 1048576
  · by_cases hz2 : s.size ≤ 65536
    · by_cases hk : 0 ≤ k ∧ k ≤ 5 ∧ 0 ≤ i ∧ i ≤ 5
      · exact walk_six k i n f b s (by unfold Six; omega) (by unfold Six; omega) h0 h1 hz2 w
      · by_cases hk1 : k < 0
        · go_enter Try.func4, Try.ntmps4
          go_wp2_with (go_at_call 15; refine (bytes15_yes k i n f b s _ (by omega)).mono ?_; rintro e w' ⟨rfl, rfl⟩)
          all_goals (go_ret; exact ⟨rfl, Below.refl _ _⟩)
        by_cases hk2 : 5 < k
        · go_enter Try.func4, Try.ntmps4
          go_wp2_with (go_at_call 15; refine (bytes15_yes k i n f b s _ (by omega)).mono ?_; rintro e w' ⟨rfl, rfl⟩)
          all_goals (go_ret; exact ⟨rfl, Below.refl _ _⟩)
        by_cases hk3 : i < 0
        · go_enter Try.func4, Try.ntmps4
          go_wp2_with (go_at_call 15; refine (bytes15_yes k i n f b s _ (by omega)).mono ?_; rintro e w' ⟨rfl, rfl⟩)
          all_goals (go_ret; exact ⟨rfl, Below.refl _ _⟩)
        have hk4 : 5 < i := by omega
        go_enter Try.func4, Try.ntmps4
        go_wp2_with (go_at_call 15; refine (bytes15_yes k i n f b s _ (by omega)).mono ?_; rintro e w' ⟨rfl, rfl⟩)
        all_goals (go_ret; exact ⟨rfl, Below.refl _ _⟩)
    · go_enter Try.func4, Try.ntmps4
      go_wp2_with (go_at_call 15; refine (bytes15_yes k i n f b s _ (by omega)).mono ?_; rintro e w' ⟨rfl, rfl⟩)
      go_ret
      exact ⟨rfl, Below.refl _ _⟩
  · go_enter Try.func4, Try.ntmps4
    go_wp2_with (go_at_call 15; refine (bytes15_no k i n f b s _ (by omega)).mono ?_; rintro e w' ⟨rfl, rfl⟩)
    go_ret
    exact ⟨rfl, Below.refl _ _⟩

set_option maxRecDepth 100000 in
theorem lifted (os : Os) (started : os.Started) (H : Type) (enc : TypeId × Value → H) :
    ReturnsInHanded {} Try.checked os 4 .any (Rows.fnTypeOfNamesTheKindOfRenderedJSONSpec.pre6 enc Try.prog Try.f4 Rows.fnTypeOfNamesTheKindOfRenderedJSONRow.domain false) (Rows.fnTypeOfNamesTheKindOfRenderedJSONSpec.post enc Try.prog Try.f4 false true false false) := by
  refine returnsInHanded_of_change (C := Try.checked) own started (by kernel_rfl) Try.func4
    (ChangeSpec.witness6 (enc := enc) (C := Try.checked) false ⟨#[], #[.int .i64 0, .int .i64 0, .int .i64 0, .bool false, .bool false, .string ByteArray.empty], []⟩ 8 (by kernel_rfl) (by kernel_rfl) (by kernel_rfl) (by kernel_rfl)) ?_
  intro W base args ds gs before hval0 hW hcnd _
  have hval : ∀ (j : Nat) t v, Try.f4.params[j]? = some t → args[j]? = some v → Value.okWide Try.prog W .any base t v := hval0
  have hW' := hW
  obtain ⟨p, q, hA0, hV, rfl, hfz, hnd⟩ := hW
  have hA : DataW.TrodAll enc Try.prog W 0 (fun _ => true) true Try.f4.params.toList args.toList ds p := hA0
  rw [Try.params4] at hA hval
  obtain ⟨v0, vs0, d0, ds0, p0, q0, hargs, rfl, rfl, h0, r0⟩ := trodAll_cons hA
  obtain ⟨v1, vs1, d1, ds1, p1, q1, rfl, rfl, rfl, h1, r1⟩ := trodAll_cons r0
  obtain ⟨v2, vs2, d2, ds2, p2, q2, rfl, rfl, rfl, h2, r2⟩ := trodAll_cons r1
  obtain ⟨v3, vs3, d3, ds3, p3, q3, rfl, rfl, rfl, h3, r3⟩ := trodAll_cons r2
  obtain ⟨v4, vs4, d4, ds4, p4, q4, rfl, rfl, rfl, h4, r4⟩ := trodAll_cons r3
  obtain ⟨v5, vs5, d5, ds5, p5, q5, rfl, rfl, rfl, h5, r5⟩ := trodAll_cons r4
  obtain ⟨rfl, rfl, rfl⟩ := trodAll_nil r5
  obtain rfl : args = #[v0, v1, v2, v3, v4, v5] := by cases args; simp_all
  obtain ⟨rfl, rfl⟩ := trodVars_none hV
  obtain ⟨a0, rfl, rfl, rfl, w0⟩ := open_int Try.underlying3 (hval 0 3 v0 rfl rfl) h0
  obtain ⟨a1, rfl, rfl, rfl, w1⟩ := open_int Try.underlying3 (hval 1 3 v1 rfl rfl) h1
  obtain ⟨a2, rfl, rfl, rfl, w2⟩ := open_int Try.underlying2 (hval 2 2 v2 rfl rfl) h2
  obtain ⟨a3, rfl, rfl, rfl⟩ := open_bool Try.underlying4 (hval 3 4 v3 rfl rfl) h3
  obtain ⟨a4, rfl, rfl, rfl⟩ := open_bool Try.underlying4 (hval 4 4 v4 rfl rfl) h4
  obtain ⟨a5, rfl, rfl, rfl, w5⟩ := open_string Try.underlying9 (hval 5 9 v5 rfl rfl) h5
  clear hA0 hval0
  have hbd := bounds_i64 w2
  refine (walk_any a0 a1 a2 a3 a4 a5 hbd.1 hbd.2 w5 W).mono fun e W' ⟨he, bel⟩ => ?_
  subst he
  exact ⟨_, rfl, _, _, _, [], _, [], hW', trodAll_mk1 (shut_bool Try.underlying4 _), (trodAll_cons_mk (shut_int Try.underlying3 w0) (trodAll_cons_mk (shut_int Try.underlying3 w1) (trodAll_cons_mk (shut_int Try.underlying2 w2) (trodAll_cons_mk (shut_bool Try.underlying4 _) (trodAll_cons_mk (shut_bool Try.underlying4 _) (trodAll_cons_mk (shut_string Try.underlying9 w5) trodAll_mk0)))))), rfl, bel.frame _, fun h => by cases h⟩

theorem over : Rows.fnTypeOfNamesTheKindOfRenderedJSONRow.holds Try.pinned (OpenSpec.ofChange Rows.fnTypeOfNamesTheKindOfRenderedJSONSpec) :=
  OpenClaim.holds_of_wide 4 Try.f4 rfl rfl rfl rfl rfl rfl rfl ⟨rfl, rfl, rfl, rfl, rfl⟩ rfl rfl rfl rfl rfl (by kernel_rfl) Try.func4 (by kernel_rfl)
    (of_decide_eq_true (by kernel_rfl)) (by unfold Func.isWrapper; first | (rw [if_pos (by decide +kernel)]; kernel_rfl) | (rw [if_neg (by decide +kernel)]; exact ⟨rfl, rfl⟩))
    (fun os started H enc _ => lifted os started H enc)

theorem proved : Rows.FnTypeOfNamesTheKindOfRenderedJSONSaid := over

end Go.Proofs.Qxb6003725a.fnTypeOfNamesTheKindOfRenderedJSON

namespace Go.Proofs.Qxb6003725a
theorem typeOfKind_holds : Rows.FnTypeOfNamesTheKindOfRenderedJSONSaid := fnTypeOfNamesTheKindOfRenderedJSON.proved
end Go.Proofs.Qxb6003725a
