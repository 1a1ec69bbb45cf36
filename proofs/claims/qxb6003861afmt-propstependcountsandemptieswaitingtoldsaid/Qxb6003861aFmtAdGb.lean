import Derived.Test.Qxb6003861aFmtAdG
namespace Go.Proofs.Qxb6003861aFmt
open Go.RowKit
set_option linter.unusedVariables false
set_option linter.unusedSimpArgs false
/-- The row that 'zeroed' hands back. -/
def ZW (w w' : World) (n : Nat) (v : Value) : Prop := (n = 0 ∧ v = .slice none 0 0 ∧ w' = w) ∨ (0 < n ∧ v = .slice (some ⟨w.heap.size, 0, none⟩) n n ∧ w' = w.alloc (.cells (Array.replicate n (.int .i64 0)) 3))
set_option maxRecDepth 100000 in
set_option maxHeartbeats 2000000 in
theorem begin0_any (limit : Int) (sb nb lb ccap : Nat) (cao : Option Addr) (w : World) (hS : Blk w sb 70 #[.int .i64 limit, .func (.func 12) #[] #[.pointer (some ⟨lb, 0, none⟩)], .nilIface, .slice none 0 0, .slice none 0 0, .slice none 0 0]) (hN : ND w nb cao ccap []) :
    Calls Tryf.prog 13 #[.pointer (some ⟨sb, 0, none⟩), .iface 40 (.pointer (some ⟨nb, 0, none⟩))] w fun e w' => e = .returned (.tuple #[]) ∧ SB w' sb nb lb limit (.slice none 0 0) (.slice none 0 0) (.slice none 0 0) ∧ Kept w w' (fun k => k = sb) := by
  have HS := Hid.mk'' hS
  have HN := Hid.mk'' hN
  have f := hS.frozen
  have c2 : w.cell? ⟨sb, 2, none⟩ = some .nilIface := hS.cell 2
  have c3 : w.cell? ⟨sb, 3, none⟩ = some (.slice none 0 0) := hS.cell 3
  have c4 : w.cell? ⟨sb, 4, none⟩ = some (.slice none 0 0) := hS.cell 4
  have hm : ∀ w, (method 214 40 (.pointer (some ⟨nb, 0, none⟩)) "IDs").run Tryf.prog w = .ok (51, .pointer (some ⟨nb, 0, none⟩)) w := fun _ => by kernel_rfl
  clear hS hN
  go_enter Tryf.func13, Tryf.ntmps13
  go_wp2_with (first | (refine (ids_any w nb cao ccap [] HN.out).mono ?_; rintro e w1 ⟨rfl, rfl⟩; simp only [List.length_nil]) | fail)
  obtain ⟨W, hW⟩ : ∃ W, W = w1.setCell ⟨sb, 2, none⟩ (.iface 40 (.pointer (some ⟨nb, 0, none⟩))) := ⟨_, rfl⟩
  have HK : Hid (Kept w1 W (fun k => k = sb)) := by rw [hW]; exact Kept.one _ _ _ _
  have HB : Hid (Blk W sb 70 #[.int .i64 limit, .func (.func 12) #[] #[.pointer (some ⟨lb, 0, none⟩)], .iface 40 (.pointer (some ⟨nb, 0, none⟩)), .slice none 0 0, .slice none 0 0, .slice none 0 0]) := by rw [hW]; exact HS.out.set 2 _
  rw [← hW]
  clear hW f c2 c3 c4
  have f := HB.out.frozen
  have c3 : W.cell? ⟨sb, 3, none⟩ = some (.slice none 0 0) := HB.out.cell 3
  have c4 : W.cell? ⟨sb, 4, none⟩ = some (.slice none 0 0) := HB.out.cell 4
  go_region_with ((first | (go_at_call 24; refine (zeroed0_any _).mono ?_; rintro e w2 ⟨rfl, rfl⟩) | fail))
  all_goals (refine bodyPost_end (v := .tuple #[]) (by simp [results, Tryf.results13, go_sem]) rfl ?_; exact ⟨rfl, ((HB.out.set 3 _).set 4 _).drew, ((HK.out.set (.inl rfl) _).set (.inl rfl) _).drew⟩)

set_option maxRecDepth 100000 in
set_option maxHeartbeats 2000000 in
theorem beginN_any (limit : Int) (sb nb lb ccap : Nat) (cao : Option Addr) (ids : List Int) (w : World) (h0 : 0 < ids.length) (hS : Blk w sb 70 #[.int .i64 limit, .func (.func 12) #[] #[.pointer (some ⟨lb, 0, none⟩)], .nilIface, .slice none 0 0, .slice none 0 0, .slice none 0 0]) (hN : ND w nb cao ccap ids) :
    Calls Tryf.prog 13 #[.pointer (some ⟨sb, 0, none⟩), .iface 40 (.pointer (some ⟨nb, 0, none⟩))] w fun e w' => e = .returned (.tuple #[]) ∧ SB w' sb nb lb limit (.slice (some ⟨w.heap.size, 0, none⟩) ids.length ids.length) (.slice (some ⟨w.heap.size + 1, 0, none⟩) ids.length ids.length) (.slice none 0 0) ∧ Blk w' w.heap.size 3 (Array.replicate ids.length (.int .i64 0)) ∧ Blk w' (w.heap.size + 1) 3 (Array.replicate ids.length (.int .i64 0)) ∧ Kept w w' (fun k => k = sb) := by
  have HS := Hid.mk'' hS
  have HN := Hid.mk'' hN
  obtain ⟨n, hn⟩ : ∃ n, n = ids.length := ⟨_, rfl⟩
  have HNn := Hid.mk'' hn
  have h64 : n ≤ 64 := by rw [hn]; exact hN.2.2
  rw [← hn] at h0 ⊢
  have f := hS.frozen
  have c2 : w.cell? ⟨sb, 2, none⟩ = some .nilIface := hS.cell 2
  have hm : ∀ w, (method 214 40 (.pointer (some ⟨nb, 0, none⟩)) "IDs").run Tryf.prog w = .ok (51, .pointer (some ⟨nb, 0, none⟩)) w := fun _ => by kernel_rfl
  clear hS hN hn
  go_enter Tryf.func13, Tryf.ntmps13
  go_wp2_with (first | (refine (ids_any w nb cao ccap ids HN.out).mono ?_; rintro e w1 ⟨rfl, hw1⟩; subst hw1; rw [← HNn.out]) | fail)
  obtain ⟨W, hW⟩ : ∃ W, W = w1.setCell ⟨sb, 2, none⟩ (.iface 40 (.pointer (some ⟨nb, 0, none⟩))) := ⟨_, rfl⟩
  have HK : Hid (Kept w1 W (fun k => k = sb)) := by rw [hW]; exact Kept.one _ _ _ _
  have HZ : Hid (W.heap.size = w1.heap.size) := by rw [hW]; simp [Hid]
  have HB : Hid (Blk W sb 70 #[.int .i64 limit, .func (.func 12) #[] #[.pointer (some ⟨lb, 0, none⟩)], .iface 40 (.pointer (some ⟨nb, 0, none⟩)), .slice none 0 0, .slice none 0 0, .slice none 0 0]) := by rw [hW]; exact HS.out.set 2 _
  rw [← hW]
  clear hW f c2
  have f := HB.out.frozen
  have c3 : W.cell? ⟨sb, 3, none⟩ = some (.slice none 0 0) := HB.out.cell 3
  have c4 : W.cell? ⟨sb, 4, none⟩ = some (.slice none 0 0) := HB.out.cell 4
  have hsb : sb < W.heap.size := HB.out.lt
  go_region_with ((first | (go_at_call 24; refine (zeroed_any n _ h64 h0).mono ?_; rintro e w2 ⟨rfl, rfl⟩) | fail))
  all_goals (refine bodyPost_end (v := .tuple #[]) (by simp [results, Tryf.results13, go_sem]) rfl ?_; rw [← HZ.out]; exact ⟨rfl, ((((HB.out.set 3 _).set 4 _).alloc _).alloc _).drew, ((Blk.new' (by simp) 3 _).alloc _).drew, (Blk.new' (by simp) 3 _).drew, ((((HK.out.set (.inl rfl) _).set (.inl rfl) _).alloc _).alloc _).drew⟩)

end Go.Proofs.Qxb6003861aFmt
