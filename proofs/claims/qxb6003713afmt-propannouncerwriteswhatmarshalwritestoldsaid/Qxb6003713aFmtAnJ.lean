import Derived.Test.Qxb6003713aFmtAnI
namespace Go.Proofs.Qxb6003713aFmt
open Go.RowKit
set_option linter.unusedVariables false
set_option linter.unusedSimpArgs false

theorem blk_on {w w' : World} {g : Nat} {T : TypeId} {xs : Array Value} (hb : Below w.heap.size w w') (h : Blk w g T xs) : Blk w' g T xs := (hb.block _ h.lt).trans h
/-- The tunnel's value. -/
def pmOct (q : PI) : List UInt8 := [by8 q.fl, by8 q.tt] ++ b3 q.lb ++ q.tid

set_option maxRecDepth 100000 in
set_option maxHeartbeats 2000000 in
theorem pmsi_any (tb : Nat) (q : PI) (ta : Option Addr) (tc : Nat) (w : World) (hT : Blk w tb 76 #[.int .u8 q.fl, .int .u8 q.tt, .int .u32 q.lb, .slice ta q.tid.length tc]) (hV : View w ta (bc q.tid)) (hn : ta = none → q.tid = [])
    (h1 : q.fl < 256) (h2 : q.tt < 256) (h3 : q.lb < 4294967296) (h4 : q.tid.length ≤ 1000000) :
    Calls Tryf.prog 62 #[.pointer (some ⟨tb, 0, none⟩), .slice none 0 0] w fun e w' => ∃ v', e = .returned v' ∧ OB 5 w.heap.size w' v' (pmOct q) ∧ Below w.heap.size w w' := by
  obtain ⟨i0, hi, hz0, hz1, hz2⟩ := info_parts Tryf.info5
  have HB : Hid (bc [by8 q.fl, by8 q.tt] = [Value.int .u8 q.fl, Value.int .u8 q.tt]) := by
    show [Value.int .u8 _, Value.int .u8 _] = _
    rw [by8_nat _ (by omega) (by omega), by8_nat _ (by omega) (by omega)]
  have HR : Hid (Rw w w (.slice none 0 0) []) := ⟨OB.nil _ _ _, Below.refl _ _⟩
  have SX : Hid (∀ W, Below w.heap.size w W → W.cell? ⟨tb, 0, none⟩ = some (.int .u8 q.fl) ∧ W.cell? ⟨tb, 1, none⟩ = some (.int .u8 q.tt) ∧ W.cell? ⟨tb, 2, none⟩ = some (.int .u32 q.lb) ∧ W.cell? ⟨tb, 3, none⟩ = some (.slice ta q.tid.length tc)) := fun W hb => by
    have h := blk_on hb hT
    exact ⟨h.cell 0, h.cell 1, h.cell 2, h.cell 3⟩
  have HV : Hid (∀ W, Below w.heap.size w W → View W ta (bc q.tid)) := fun W hb => hV.all hb
  have HN := Hid.mk'' hn
  have H3 := Hid.mk'' h3
  have H4 := Hid.mk'' h4
  clear hT hV hn h1 h2 h3 h4
  go_enter Tryf.func62, Tryf.ntmps62
  go_wp2_with fail
  obtain ⟨c0, c1, c2, c3⟩ := SX.out w (Below.refl _ _)
  go_region_held3 (fun w' => w'.cell? ⟨tb, 0, none⟩ = some (.int .u8 q.fl) ∧ w'.cell? ⟨tb, 1, none⟩ = some (.int .u8 q.tt) ∧ w'.cell? ⟨tb, 2, none⟩ = some (.int .u32 q.lb) ∧ w'.cell? ⟨tb, 3, none⟩ = some (.slice ta q.tid.length tc)) ((first | go_keep | exact SX.out _ HR3.out.below)) ((first
    | (refine step_append_any _ (by rfl) (.tmp 5) (.tmp 14) 23 23 (by rfl) w.heap.size 5 i0 (.int .u8 0) 1 1 Tryf.underlying23 hi hz0 hz1 hz2 rfl _ 0 (bc []) (by rfl) (by exact (HR.out.row.alloc _)) _ 2 (bc [by8 q.fl, by8 q.tt]) (by rfl) (Src.litHD _ Tryf.underlying23 [by8 q.fl, by8 q.tt] _ 2 2 5 w.heap.size (by simp) (by rw [HB.out]) rfl) (by unfold maxLen; omega) (by omega) (by simp) ?_; intro v3 w3 hown3 hext3 _ _; have HR3 : Hid (Rw w w3 v3 [by8 q.fl, by8 q.tt]) := (HR.out.ext hext3.of_drew.of_alloc (by simpa using OB.app (l := []) hown3 rfl)); clear hown3 hext3)
    | fail))
  clear c0 c1 c2 c3
  obtain ⟨c0, c1, c2, c3⟩ := SX.out w3 HR3.out.below
  go_wp2_with fail
  go_region_held3 (fun w' => w'.cell? ⟨tb, 0, none⟩ = some (.int .u8 q.fl) ∧ w'.cell? ⟨tb, 1, none⟩ = some (.int .u8 q.tt) ∧ w'.cell? ⟨tb, 2, none⟩ = some (.int .u32 q.lb) ∧ w'.cell? ⟨tb, 3, none⟩ = some (.slice ta q.tid.length tc)) ((first | go_keep | exact SX.out _ HR5.out.below | exact SX.out _ HR4.out.below)) ((first
    | (go_at_call 55; refine (lab_any q.lb w.heap.size _ [by8 q.fl, by8 q.tt] _ H3.out (by exact HR3.out.drew.row) (by exact HR3.out.size) (by simp)).mono ?_; rintro e w4 ⟨v4, rfl, hO4, hE4⟩; have HR4 : Hid (Rw w w4 v4 ([by8 q.fl, by8 q.tt] ++ b3 q.lb)) := HR3.out.drew.ext hE4 hO4; clear hO4 hE4)
    | (refine step_append_any _ (by rfl) (.tmp 21) (.tmp 25) 23 23 (by rfl) w.heap.size 5 i0 (.int .u8 0) 1 1 Tryf.underlying23 hi hz0 hz1 hz2 rfl _ _ _ (by rfl) (by exact HR4.out.row) _ q.tid.length (bc q.tid) (by rfl) (Src.view _ Tryf.underlying23 ta q.tid _ (HV.out _ HR4.out.below) HN.out) (by have := H4.out; unfold maxLen; simp [b3]; omega) (by have := H4.out; simp [b3]; omega) (by exact HR4.out.size) ?_; intro v5 w5 hown5 hext5 _ _; have HR5 : Hid (Rw w w5 v5 (pmOct q)) := HR4.out.ext hext5 (OB.app hown5 rfl); clear hown5 hext5)
    | fail))
  go_wp2_with fail
  go_ret
  exact ⟨_, rfl, HR5.out.row, HR5.out.below⟩

/-- The family's three octets. -/
theorem fam_any (w : World) : Calls Tryf.prog 43 #[.slice none 0 0] w fun e w' => ∃ v', e = .returned v' ∧ OB 5 w.heap.size w' v' [0, 25, 70] ∧ Below w.heap.size w w' := by
  obtain ⟨i0, hi, hz0, hz1, hz2⟩ := info_parts Tryf.info5
  have HR : Hid (Rw w w (.slice none 0 0) []) := ⟨OB.nil _ _ _, Below.refl _ _⟩
  go_enter Tryf.func43, Tryf.ntmps43
  go_wp2_with (first
    | (go_at_call 46; go_must ((refine (app16_any 25 w.heap.size _ [] _ (by omega) (by omega) HR.out.row (Nat.le_refl _) (by simp)).mono ?_)); rintro e w2 ⟨v2, rfl, hO2, hE2, _⟩; have HR2 : Hid (Rw w w2 v2 [0, 25]) := HR.out.ext hE2 hO2; clear hO2 hE2)
    | (at_builtin; go_must ((refine wpList_append_any _ rfl (.tmp 5) (.tmp 6) 23 23 rfl w.heap.size 5 i0 (.int .u8 0) 1 1 Tryf.underlying23 hi hz0 hz1 hz2 rfl _ _ _ rfl (HR2.out.row.alloc _) _ 1 (bc [70]) rfl (Src.litH _ Tryf.underlying23 [70] _ 1 1 5 w2.heap.size (by simp) rfl rfl) (by unfold maxLen; simp) (by simp) (by exact (HR2.out.alloc _).size) ?_)); intro v3 w3 hown3 hext3 _ _)
    | fail)
  go_ret
  have HR3 : Rw w w3 v3 [0, 25, 70] := (HR2.out.alloc _).ext hext3 (OB.app (l := [0, 25]) (m := [70]) hown3 rfl)
  exact ⟨_, rfl, HR3.row, HR3.below⟩

end Go.Proofs.Qxb6003713aFmt
