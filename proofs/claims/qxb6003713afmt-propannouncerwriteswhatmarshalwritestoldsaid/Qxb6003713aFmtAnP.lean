import Derived.Test.Qxb6003713aFmtAnO
import Derived.Deep.RegionHeld3
import Derived.Deep.MidRow
import Derived.Laws.CopyOwn
namespace Go.Proofs.Qxb6003713aFmt
open Go.RowKit
set_option linter.unusedVariables false
set_option linter.unusedSimpArgs false

abbrev Z39 : Array Value := #[.int .u8 0, .int .u8 0, .int .u8 0, .int .u8 0, .int .u8 0, .int .u8 0, .int .u8 0, .int .u8 0, .int .u8 0, .int .u8 0, .int .u8 0, .int .u8 0, .int .u8 0, .int .u8 0, .int .u8 0, .int .u8 0, .int .u8 0, .int .u8 0, .int .u8 0, .int .u32 0, .int .u8 0, .int .u8 0, .int .u8 0, .int .u8 0, .int .u8 0, .int .u8 0, .int .u64 0, .int .u64 0, .pointer none, .int .u64 0, .int .u64 0, .pointer none, .int .u8 0, .int .u64 0, .int .u64 0, .pointer none, .int .u32 0, .int .u32 0, .bool false]
theorem info49 : (Tryf.prog.info? 49).map (·.size) = some 8 := by kernel_rfl
theorem info50 : (Tryf.prog.info? 50).map (·.size) = some 10 := by kernel_rfl
theorem info51 : (Tryf.prog.info? 51).map (·.size) = some 6 := by kernel_rfl
theorem info39 : (Tryf.prog.info? 39).map (·.size) = some 16 := by kernel_rfl
theorem ins_range8 {r : RI} {W : World} {g : Nat} (h : Blk W g 53 r.ins) : W.rangeAt g 1 (#[.int .u8 (r.rd 0).toNat, .int .u8 (r.rd 1).toNat, .int .u8 (r.rd 2).toNat, .int .u8 (r.rd 3).toNat, .int .u8 (r.rd 4).toNat, .int .u8 (r.rd 5).toNat, .int .u8 (r.rd 6).toNat, .int .u8 (r.rd 7).toNat] : Array Value).toList := fun j v hv => by
  have := h.cell (1 + j)
  rw [this]
  match j, hv with
  | 0, hv => exact hv
  | 1, hv => exact hv
  | 2, hv => exact hv
  | 3, hv => exact hv
  | 4, hv => exact hv
  | 5, hv => exact hv
  | 6, hv => exact hv
  | 7, hv => exact hv
  | j + 8, hv => exact absurd (List.getElem?_eq_some_iff.1 hv).1 (by simp)
theorem ins_range10 {r : RI} {W : World} {g : Nat} (h : Blk W g 53 r.ins) : W.rangeAt g 9 (#[.int .u8 (r.es 0).toNat, .int .u8 (r.es 1).toNat, .int .u8 (r.es 2).toNat, .int .u8 (r.es 3).toNat, .int .u8 (r.es 4).toNat, .int .u8 (r.es 5).toNat, .int .u8 (r.es 6).toNat, .int .u8 (r.es 7).toNat, .int .u8 (r.es 8).toNat, .int .u8 (r.es 9).toNat] : Array Value).toList := fun j v hv => by
  have := h.cell (9 + j)
  rw [this]
  match j, hv with
  | 0, hv => exact hv
  | 1, hv => exact hv
  | 2, hv => exact hv
  | 3, hv => exact hv
  | 4, hv => exact hv
  | 5, hv => exact hv
  | 6, hv => exact hv
  | 7, hv => exact hv
  | 8, hv => exact hv
  | 9, hv => exact hv
  | j + 10, hv => exact absurd (List.getElem?_eq_some_iff.1 hv).1 (by simp)
theorem ins_range6 {r : RI} {W : World} {g : Nat} (h : Blk W g 53 r.ins) : W.rangeAt g 20 (#[.int .u8 (r.mac 0).toNat, .int .u8 (r.mac 1).toNat, .int .u8 (r.mac 2).toNat, .int .u8 (r.mac 3).toNat, .int .u8 (r.mac 4).toNat, .int .u8 (r.mac 5).toNat] : Array Value).toList := fun j v hv => by
  have := h.cell (20 + j)
  rw [this]
  match j, hv with
  | 0, hv => exact hv
  | 1, hv => exact hv
  | 2, hv => exact hv
  | 3, hv => exact hv
  | 4, hv => exact hv
  | 5, hv => exact hv
  | j + 6, hv => exact absurd (List.getElem?_eq_some_iff.1 hv).1 (by simp)
theorem ins_range16 {r : RI} {W : World} {g : Nat} (h : Blk W g 53 r.ins) : W.rangeAt g 27 (#[.int .u8 (r.ip 0).toNat, .int .u8 (r.ip 1).toNat, .int .u8 (r.ip 2).toNat, .int .u8 (r.ip 3).toNat, .int .u8 (r.ip 4).toNat, .int .u8 (r.ip 5).toNat, .int .u8 (r.ip 6).toNat, .int .u8 (r.ip 7).toNat, .int .u8 (r.ip 8).toNat, .int .u8 (r.ip 9).toNat, .int .u8 (r.ip 10).toNat, .int .u8 (r.ip 11).toNat, .int .u8 (r.ip 12).toNat, .int .u8 (r.ip 13).toNat, .int .u8 (r.ip 14).toNat, .int .u8 (r.ip 15).toNat] : Array Value).toList := fun j v hv => by
  have := h.cell (27 + j)
  rw [this]
  match j, hv with
  | 0, hv => exact hv
  | 1, hv => exact hv
  | 2, hv => exact hv
  | 3, hv => exact hv
  | 4, hv => exact hv
  | 5, hv => exact hv
  | 6, hv => exact hv
  | 7, hv => exact hv
  | 8, hv => exact hv
  | 9, hv => exact hv
  | 10, hv => exact hv
  | 11, hv => exact hv
  | 12, hv => exact hv
  | 13, hv => exact hv
  | 14, hv => exact hv
  | 15, hv => exact hv
  | j + 16, hv => exact absurd (List.getElem?_eq_some_iff.1 hv).1 (by simp)

theorem boxed2 {w w1 : World} {T U : TypeId} {xs ys : Array Value} (h : Below ((w.alloc (.cells xs T)).alloc (.cells ys U)).heap.size ((w.alloc (.cells xs T)).alloc (.cells ys U)) w1) : Blk w1 (w.heap.size + 1) U ys ∧ Blk w1 w.heap.size T xs := by
  have h1 := blk_on h (Blk.new (w.alloc (.cells xs T)) U ys)
  have h0 := blk_on h (blk_on ((Below.refl _ _).alloc (Nat.le_refl _) (.cells ys U)) (Blk.new w T xs))
  refine ⟨?_, h0⟩
  simpa using h1
theorem Blk.row {W : World} {g : Nat} {T : TypeId} {xs : Array Value} (h : Blk W g T xs) (ys : Array Value) : Blk (W.setRow g ys) g T ys := by
  unfold Blk at h ⊢
  have hl := (Array.getElem?_eq_some_iff.1 h).1
  simp [World.setRow, Array.getElem?_modify, h]
theorem Blk.row_other {W : World} {g g' : Nat} {T : TypeId} {xs : Array Value} (h : Blk W g T xs) (ys : Array Value) (hne : g' ≠ g) : Blk (W.setRow g' ys) g T xs := by
  unfold Blk at h ⊢
  simp [World.setRow, Array.getElem?_modify, h, hne]
theorem results_cell1 {fn : Func} {p : Tmp} {ty : TypeId} (h : fn.results = #[.cell p ty]) (tmps : Array Value) (P : Program) (w : World) :
    (results fn tmps).run P w = ((asAddr (tmps.getD p undef)).run P w).andThen fun a w₁ => (loadVar ty a).run P w₁ := by
  simp only [results, h]
  simp [Sem.run_bind, Result.andThen]
/-- What holds while the route is built. -/
def RS (w : World) (r : RI) (W : World) : Prop := Blk W w.heap.size 53 r.ins ∧ (∃ Z, Blk W (w.heap.size + 1) 88 Z ∧ Z.size = 39) ∧ Below w.heap.size w W
theorem RS.later {w W W' : World} {r : RI} (h : RS w r W) (hb : Below W.heap.size W W') : RS w r W' := by
  obtain ⟨h1, ⟨Z, h2, h3⟩, h4⟩ := h
  exact ⟨blk_on hb h1, ⟨Z, blk_on hb h2, h3⟩, h4.trans (hb.mono h4.size)⟩
theorem RS.set {w W : World} {r : RI} (h : RS w r W) (ys : Array Value) (hy : ys.size = 39) : RS w r (W.setRow (w.heap.size + 1) ys) ∧ Blk (W.setRow (w.heap.size + 1) ys) (w.heap.size + 1) 88 ys := by
  obtain ⟨h1, ⟨Z, h2, h3⟩, h4⟩ := h
  exact ⟨⟨h1.row_other ys (by omega), ⟨ys, h2.row ys, hy⟩, below_setRow h4 (by omega) ys⟩, h2.row ys⟩
theorem RS.mk0 (w : World) (r : RI) : RS w r ((w.alloc (.cells r.ins 53)).alloc (.cells Z39 88)).drew := by
  have h := boxed2 (Below.refl _ ((w.alloc (.cells r.ins 53)).alloc (.cells Z39 88)))
  exact ⟨h.2, ⟨Z39, h.1, rfl⟩, below_drew (((Below.refl _ _).alloc (Nat.le_refl _) _).alloc (by simp) _)⟩

set_option maxRecDepth 100000 in
set_option maxHeartbeats 4000000 in
theorem route_any (r : RI) (p4 p6 : Addr) (w : World) (hz : Zs w p4 p6) :
    Calls Tryf.prog 18 #[.agg r.ins] w fun e w' => e = .returned (.agg (r.outs p4 p6)) ∧ Below w.heap.size w w' := by
  have HZ : Hid (∀ W, Below w.heap.size w W → Zs W p4 p6) := fun W hb => hz.later hb
  have HW0 : Hid (Below w.heap.size w ((w.alloc (.cells r.ins 53)).alloc (.cells Z39 88))) := ((Below.refl _ _).alloc (Nat.le_refl _) _).alloc (by simp) _
  clear hz
  go_enter Tryf.func18, Tryf.ntmps18
  go_upto_region 1 with fail
  refine wp_region_held_drew (S := fun W => Hid (RS w r W)) (by kernel_rfl) (RS.mk0 w r) (fun hHeld => ?_)
  refine wpAnyH_take (i := 0) (oi := { dst := some 3, op := .fieldAddr 53 (.tmp 1) 0, type := 0, pos := _, after := #[], guard := none }) (v := .pointer (some ⟨w.heap.size, 0, none⟩)) rfl (by kernel_rfl) (by kernel_rfl) (by kernel_rfl) (fun _ _ _ h => h) (Or.inl ⟨by rfl, fun W hSW => by go_simp⟩) (by assumption) ?_
  try simp only [Act.put, List.setIfInBounds_toArray, List.set_cons_zero, List.set_cons_succ]
  refine wpAnyH_take (i := 1) (oi := { dst := some 4, op := .load 5 (.tmp 3), type := 5, pos := _, after := #[{ on := 0, ground := .data }], guard := none }) (v := .int .u8 r.ty) rfl (by kernel_rfl) (by kernel_rfl) (by kernel_rfl) (fun _ _ _ h => h) (Or.inl ⟨by rfl, fun W hSW => by have hc2 : W.cell? ⟨w.heap.size, 0, none⟩ = some (.int .u8 r.ty) := hSW.out.1.cell 0; go_simp⟩) (by assumption) ?_
  try simp only [Act.put, List.setIfInBounds_toArray, List.set_cons_zero, List.set_cons_succ]
  refine wpAnyH_take (i := 2) (oi := { dst := some 5, op := .fieldAddr 53 (.tmp 1) 1, type := 0, pos := _, after := #[], guard := none }) (v := .pointer (some ⟨w.heap.size, 1, none⟩)) rfl (by kernel_rfl) (by kernel_rfl) (by kernel_rfl) (fun _ _ _ h => h) (Or.inl ⟨by rfl, fun W hSW => by go_simp⟩) (by assumption) ?_
  try simp only [Act.put, List.setIfInBounds_toArray, List.set_cons_zero, List.set_cons_succ]
  refine wpAnyH_take (i := 3) (oi := { dst := some 6, op := .load 49 (.tmp 5), type := 49, pos := _, after := #[{ on := 2, ground := .data }], guard := none }) (v := .agg #[.int .u8 (r.rd 0).toNat, .int .u8 (r.rd 1).toNat, .int .u8 (r.rd 2).toNat, .int .u8 (r.rd 3).toNat, .int .u8 (r.rd 4).toNat, .int .u8 (r.rd 5).toNat, .int .u8 (r.rd 6).toNat, .int .u8 (r.rd 7).toNat]) rfl (by kernel_rfl) (by kernel_rfl) (by kernel_rfl) (fun _ _ _ h => h) (yieldsIf_load_mid (by rfl) _ _ rfl _ _ rfl (#[.int .u8 (r.rd 0).toNat, .int .u8 (r.rd 1).toNat, .int .u8 (r.rd 2).toNat, .int .u8 (r.rd 3).toNat, .int .u8 (r.rd 4).toNat, .int .u8 (r.rd 5).toNat, .int .u8 (r.rd 6).toNat, .int .u8 (r.rd 7).toNat] : Array Value).toList _ (fun W h => ins_range8 h.out.1) Tryf.underlying49 rfl info49) (by assumption) ?_
  try simp only [Act.put, List.setIfInBounds_toArray, List.set_cons_zero, List.set_cons_succ]
  refine wpAnyH_take (i := 4) (oi := { dst := some 7, op := .fieldAddr 53 (.tmp 1) 2, type := 0, pos := _, after := #[], guard := none }) (v := .pointer (some ⟨w.heap.size, 9, none⟩)) rfl (by kernel_rfl) (by kernel_rfl) (by kernel_rfl) (fun _ _ _ h => h) (Or.inl ⟨by rfl, fun W hSW => by go_simp⟩) (by assumption) ?_
  try simp only [Act.put, List.setIfInBounds_toArray, List.set_cons_zero, List.set_cons_succ]
  refine wpAnyH_take (i := 5) (oi := { dst := some 8, op := .load 50 (.tmp 7), type := 50, pos := _, after := #[{ on := 4, ground := .data }], guard := none }) (v := .agg #[.int .u8 (r.es 0).toNat, .int .u8 (r.es 1).toNat, .int .u8 (r.es 2).toNat, .int .u8 (r.es 3).toNat, .int .u8 (r.es 4).toNat, .int .u8 (r.es 5).toNat, .int .u8 (r.es 6).toNat, .int .u8 (r.es 7).toNat, .int .u8 (r.es 8).toNat, .int .u8 (r.es 9).toNat]) rfl (by kernel_rfl) (by kernel_rfl) (by kernel_rfl) (fun _ _ _ h => h) (yieldsIf_load_mid (by rfl) _ _ rfl _ _ rfl (#[.int .u8 (r.es 0).toNat, .int .u8 (r.es 1).toNat, .int .u8 (r.es 2).toNat, .int .u8 (r.es 3).toNat, .int .u8 (r.es 4).toNat, .int .u8 (r.es 5).toNat, .int .u8 (r.es 6).toNat, .int .u8 (r.es 7).toNat, .int .u8 (r.es 8).toNat, .int .u8 (r.es 9).toNat] : Array Value).toList _ (fun W h => ins_range10 h.out.1) Tryf.underlying50 rfl info50) (by assumption) ?_
  try simp only [Act.put, List.setIfInBounds_toArray, List.set_cons_zero, List.set_cons_succ]
  refine wpAnyH_take (i := 6) (oi := { dst := some 9, op := .fieldAddr 53 (.tmp 1) 3, type := 0, pos := _, after := #[], guard := none }) (v := .pointer (some ⟨w.heap.size, 19, none⟩)) rfl (by kernel_rfl) (by kernel_rfl) (by kernel_rfl) (fun _ _ _ h => h) (Or.inl ⟨by rfl, fun W hSW => by go_simp⟩) (by assumption) ?_
  try simp only [Act.put, List.setIfInBounds_toArray, List.set_cons_zero, List.set_cons_succ]
  refine wpAnyH_take (i := 7) (oi := { dst := some 10, op := .load 42 (.tmp 9), type := 42, pos := _, after := #[{ on := 6, ground := .data }], guard := none }) (v := .int .u32 r.tag) rfl (by kernel_rfl) (by kernel_rfl) (by kernel_rfl) (fun _ _ _ h => h) (Or.inl ⟨by rfl, fun W hSW => by have hc2 : W.cell? ⟨w.heap.size, 19, none⟩ = some (.int .u32 r.tag) := hSW.out.1.cell 19; go_simp⟩) (by assumption) ?_
  try simp only [Act.put, List.setIfInBounds_toArray, List.set_cons_zero, List.set_cons_succ]
  refine wpAnyH_take (i := 8) (oi := { dst := some 11, op := .fieldAddr 53 (.tmp 1) 4, type := 0, pos := _, after := #[], guard := none }) (v := .pointer (some ⟨w.heap.size, 20, none⟩)) rfl (by kernel_rfl) (by kernel_rfl) (by kernel_rfl) (fun _ _ _ h => h) (Or.inl ⟨by rfl, fun W hSW => by go_simp⟩) (by assumption) ?_
  try simp only [Act.put, List.setIfInBounds_toArray, List.set_cons_zero, List.set_cons_succ]
  refine wpAnyH_take (i := 9) (oi := { dst := some 12, op := .load 51 (.tmp 11), type := 51, pos := _, after := #[{ on := 8, ground := .data }], guard := none }) (v := .agg #[.int .u8 (r.mac 0).toNat, .int .u8 (r.mac 1).toNat, .int .u8 (r.mac 2).toNat, .int .u8 (r.mac 3).toNat, .int .u8 (r.mac 4).toNat, .int .u8 (r.mac 5).toNat]) rfl (by kernel_rfl) (by kernel_rfl) (by kernel_rfl) (fun _ _ _ h => h) (yieldsIf_load_mid (by rfl) _ _ rfl _ _ rfl (#[.int .u8 (r.mac 0).toNat, .int .u8 (r.mac 1).toNat, .int .u8 (r.mac 2).toNat, .int .u8 (r.mac 3).toNat, .int .u8 (r.mac 4).toNat, .int .u8 (r.mac 5).toNat] : Array Value).toList _ (fun W h => ins_range6 h.out.1) Tryf.underlying51 rfl info51) (by assumption) ?_
  try simp only [Act.put, List.setIfInBounds_toArray, List.set_cons_zero, List.set_cons_succ]
  refine wpAnyH_take (i := 10) (oi := { dst := some 13, op := .fieldAddr 53 (.tmp 1) 5, type := 0, pos := _, after := #[], guard := none }) (v := .pointer (some ⟨w.heap.size, 26, none⟩)) rfl (by kernel_rfl) (by kernel_rfl) (by kernel_rfl) (fun _ _ _ h => h) (Or.inl ⟨by rfl, fun W hSW => by go_simp⟩) (by assumption) ?_
  try simp only [Act.put, List.setIfInBounds_toArray, List.set_cons_zero, List.set_cons_succ]
  refine wpAnyH_take (i := 11) (oi := { dst := some 14, op := .load 5 (.tmp 13), type := 5, pos := _, after := #[{ on := 10, ground := .data }], guard := none }) (v := .int .u8 r.n) rfl (by kernel_rfl) (by kernel_rfl) (by kernel_rfl) (fun _ _ _ h => h) (Or.inl ⟨by rfl, fun W hSW => by have hc2 : W.cell? ⟨w.heap.size, 26, none⟩ = some (.int .u8 r.n) := hSW.out.1.cell 26; go_simp⟩) (by assumption) ?_
  try simp only [Act.put, List.setIfInBounds_toArray, List.set_cons_zero, List.set_cons_succ]
  refine wpAnyH_take (i := 12) (oi := { dst := some 15, op := .fieldAddr 53 (.tmp 1) 6, type := 0, pos := _, after := #[], guard := none }) (v := .pointer (some ⟨w.heap.size, 27, none⟩)) rfl (by kernel_rfl) (by kernel_rfl) (by kernel_rfl) (fun _ _ _ h => h) (Or.inl ⟨by rfl, fun W hSW => by go_simp⟩) (by assumption) ?_
  try simp only [Act.put, List.setIfInBounds_toArray, List.set_cons_zero, List.set_cons_succ]
  refine wpAnyH_take (i := 13) (oi := { dst := some 16, op := .load 39 (.tmp 15), type := 39, pos := _, after := #[{ on := 12, ground := .data }], guard := none }) (v := .agg #[.int .u8 (r.ip 0).toNat, .int .u8 (r.ip 1).toNat, .int .u8 (r.ip 2).toNat, .int .u8 (r.ip 3).toNat, .int .u8 (r.ip 4).toNat, .int .u8 (r.ip 5).toNat, .int .u8 (r.ip 6).toNat, .int .u8 (r.ip 7).toNat, .int .u8 (r.ip 8).toNat, .int .u8 (r.ip 9).toNat, .int .u8 (r.ip 10).toNat, .int .u8 (r.ip 11).toNat, .int .u8 (r.ip 12).toNat, .int .u8 (r.ip 13).toNat, .int .u8 (r.ip 14).toNat, .int .u8 (r.ip 15).toNat]) rfl (by kernel_rfl) (by kernel_rfl) (by kernel_rfl) (fun _ _ _ h => h) (yieldsIf_load_mid (by rfl) _ _ rfl _ _ rfl (#[.int .u8 (r.ip 0).toNat, .int .u8 (r.ip 1).toNat, .int .u8 (r.ip 2).toNat, .int .u8 (r.ip 3).toNat, .int .u8 (r.ip 4).toNat, .int .u8 (r.ip 5).toNat, .int .u8 (r.ip 6).toNat, .int .u8 (r.ip 7).toNat, .int .u8 (r.ip 8).toNat, .int .u8 (r.ip 9).toNat, .int .u8 (r.ip 10).toNat, .int .u8 (r.ip 11).toNat, .int .u8 (r.ip 12).toNat, .int .u8 (r.ip 13).toNat, .int .u8 (r.ip 14).toNat, .int .u8 (r.ip 15).toNat] : Array Value).toList _ (fun W h => ins_range16 h.out.1) Tryf.underlying39 rfl info39) (by assumption) ?_
  try simp only [Act.put, List.setIfInBounds_toArray, List.set_cons_zero, List.set_cons_succ]
  refine wpAnyH_take (i := 15) (oi := { dst := some 18, op := .fieldAddr 53 (.tmp 1) 7, type := 0, pos := _, after := #[], guard := none }) (v := .pointer (some ⟨w.heap.size, 43, none⟩)) rfl (by kernel_rfl) (by kernel_rfl) (by kernel_rfl) (fun _ _ _ h => h) (Or.inl ⟨by rfl, fun W hSW => by go_simp⟩) (by assumption) ?_
  try simp only [Act.put, List.setIfInBounds_toArray, List.set_cons_zero, List.set_cons_succ]
  refine wpAnyH_take (i := 16) (oi := { dst := some 19, op := .load 42 (.tmp 18), type := 42, pos := _, after := #[{ on := 15, ground := .data }], guard := none }) (v := .int .u32 r.l1) rfl (by kernel_rfl) (by kernel_rfl) (by kernel_rfl) (fun _ _ _ h => h) (Or.inl ⟨by rfl, fun W hSW => by have hc2 : W.cell? ⟨w.heap.size, 43, none⟩ = some (.int .u32 r.l1) := hSW.out.1.cell 43; go_simp⟩) (by assumption) ?_
  try simp only [Act.put, List.setIfInBounds_toArray, List.set_cons_zero, List.set_cons_succ]
  refine wpAnyH_take (i := 17) (oi := { dst := some 20, op := .fieldAddr 53 (.tmp 1) 8, type := 0, pos := _, after := #[], guard := none }) (v := .pointer (some ⟨w.heap.size, 44, none⟩)) rfl (by kernel_rfl) (by kernel_rfl) (by kernel_rfl) (fun _ _ _ h => h) (Or.inl ⟨by rfl, fun W hSW => by go_simp⟩) (by assumption) ?_
  try simp only [Act.put, List.setIfInBounds_toArray, List.set_cons_zero, List.set_cons_succ]
  refine wpAnyH_take (i := 18) (oi := { dst := some 21, op := .load 42 (.tmp 20), type := 42, pos := _, after := #[{ on := 17, ground := .data }], guard := none }) (v := .int .u32 r.l2) rfl (by kernel_rfl) (by kernel_rfl) (by kernel_rfl) (fun _ _ _ h => h) (Or.inl ⟨by rfl, fun W hSW => by have hc2 : W.cell? ⟨w.heap.size, 44, none⟩ = some (.int .u32 r.l2) := hSW.out.1.cell 44; go_simp⟩) (by assumption) ?_
  try simp only [Act.put, List.setIfInBounds_toArray, List.set_cons_zero, List.set_cons_succ]
  refine wpAnyH_take (i := 19) (oi := { dst := some 22, op := .fieldAddr 53 (.tmp 1) 9, type := 0, pos := _, after := #[], guard := none }) (v := .pointer (some ⟨w.heap.size, 45, none⟩)) rfl (by kernel_rfl) (by kernel_rfl) (by kernel_rfl) (fun _ _ _ h => h) (Or.inl ⟨by rfl, fun W hSW => by go_simp⟩) (by assumption) ?_
  try simp only [Act.put, List.setIfInBounds_toArray, List.set_cons_zero, List.set_cons_succ]
  refine wpAnyH_take (i := 20) (oi := { dst := some 23, op := .load 4 (.tmp 22), type := 4, pos := _, after := #[{ on := 19, ground := .data }], guard := none }) (v := .bool r.h2) rfl (by kernel_rfl) (by kernel_rfl) (by kernel_rfl) (fun _ _ _ h => h) (Or.inl ⟨by rfl, fun W hSW => by have hc2 : W.cell? ⟨w.heap.size, 45, none⟩ = some (.bool r.h2) := hSW.out.1.cell 45; go_simp⟩) (by assumption) ?_
  try simp only [Act.put, List.setIfInBounds_toArray, List.set_cons_zero, List.set_cons_succ]
  refine wpAnyH_ready (rs := [14]) (by kernel_rfl) (by simp) ?_
  refine AllReadyH.cons (o := { dst := some 17, op := .call { callee := .value (.func 15), args := #[.tmp 14, .tmp 16], argTypes := #[5, 39] }, type := 62, pos := _, after := #[{ on := 11, ground := .data }, { on := 13, ground := .data }], guard := none }) rfl (fun K hK => ?_) AllReadyH.nil
  go_simp
  go_at_call 15
  refine (zaddr_c p4 p6 r.n _ r.ip _ (HZ.out _ hHeld.out.2.2) (oct16 r.ip)).mono ?_
  rintro e w1 ⟨rfl, hb1⟩
  have HB1 : Hid (RS w r w1) := hHeld.out.later hb1
  clear hb1 hHeld
  go_wp2_with fail
  refine hK.out _ _ (HB1) (fun hHeld => ?_)
  clear hK K
  try simp only [Act.put, List.setIfInBounds_toArray, List.set_cons_zero, List.set_cons_succ]
  refine wpAnyH_take (i := 21) (oi := { dst := some 24, op := .build 88 #[(0, .tmp 4), (1, .tmp 6), (2, .tmp 8), (3, .tmp 10), (4, .tmp 12), (5, .tmp 17), (8, .tmp 19), (9, .tmp 21), (10, .tmp 23)], type := 88, pos := _, after := #[{ on := 1, ground := .data }, { on := 3, ground := .data }, { on := 5, ground := .data }, { on := 7, ground := .data }, { on := 9, ground := .data }, { on := 14, ground := .data }, { on := 16, ground := .data }, { on := 18, ground := .data }, { on := 20, ground := .data }], guard := none }) (v := .agg #[.int .u8 r.ty, .int .u8 (r.rd 0).toNat, .int .u8 (r.rd 1).toNat, .int .u8 (r.rd 2).toNat, .int .u8 (r.rd 3).toNat, .int .u8 (r.rd 4).toNat, .int .u8 (r.rd 5).toNat, .int .u8 (r.rd 6).toNat, .int .u8 (r.rd 7).toNat, .int .u8 (r.es 0).toNat, .int .u8 (r.es 1).toNat, .int .u8 (r.es 2).toNat, .int .u8 (r.es 3).toNat, .int .u8 (r.es 4).toNat, .int .u8 (r.es 5).toNat, .int .u8 (r.es 6).toNat, .int .u8 (r.es 7).toNat, .int .u8 (r.es 8).toNat, .int .u8 (r.es 9).toNat, .int .u32 r.tag, .int .u8 (r.mac 0).toNat, .int .u8 (r.mac 1).toNat, .int .u8 (r.mac 2).toNat, .int .u8 (r.mac 3).toNat, .int .u8 (r.mac 4).toNat, .int .u8 (r.mac 5).toNat, .int .u64 (aHi r.n r.ip : Nat), .int .u64 (aLo r.n r.ip : Nat), .pointer (aZ p4 p6 r.n), .int .u64 0, .int .u64 0, .pointer none, .int .u8 0, .int .u64 0, .int .u64 0, .pointer none, .int .u32 r.l1, .int .u32 r.l2, .bool r.h2]) rfl (by kernel_rfl) (by kernel_rfl) (by kernel_rfl) (fun _ _ _ h => h) (Or.inl ⟨by rfl, fun W hSW => by go_simp⟩) (by assumption) ?_
  try simp only [Act.put, List.setIfInBounds_toArray, List.set_cons_zero, List.set_cons_succ]
  refine wpAnyH_ready (rs := [22]) (by kernel_rfl) (by simp) ?_
  refine AllReadyH.cons (o := { dst := none, op := .store 88 (.tmp 2) (.tmp 24), type := 0, pos := _, after := #[{ on := 21, ground := .data }, { on := 14, ground := .chain }, { on := 0, ground := .phase }, { on := 1, ground := .phase }, { on := 2, ground := .phase }, { on := 3, ground := .phase }, { on := 4, ground := .phase }, { on := 5, ground := .phase }, { on := 6, ground := .phase }, { on := 7, ground := .phase }, { on := 8, ground := .phase }, { on := 9, ground := .phase }, { on := 10, ground := .phase }, { on := 11, ground := .phase }, { on := 12, ground := .phase }, { on := 13, ground := .phase }, { on := 14, ground := .phase }, { on := 15, ground := .phase }, { on := 16, ground := .phase }, { on := 17, ground := .phase }, { on := 18, ground := .phase }, { on := 19, ground := .phase }, { on := 20, ground := .phase }, { on := 21, ground := .phase }], guard := none }) rfl (fun K hK => ?_) AllReadyH.nil
  obtain ⟨Z, hZ, hZs⟩ := hHeld.out.2.1
  refine wp_store_row 88 (.tmp 2) (.tmp 24) rfl (w.heap.size + 1) (r.outs p4 p6) rfl rfl 88 Z hZ (by kernel_rfl) hZs (by simp [RI.outs, Value.oneCell']) ?_
  have HFin := Hid.mk'' (hHeld.out.set (r.outs p4 p6) rfl)
  refine hK.out _ _ (HFin.out.1) (fun hHeld2 => ?_)
  clear hK K
  refine wpAnyH_done (by kernel_rfl) ?_ _
  go_wp2_with fail
  have hl := run_loadVar_row (P := Tryf.prog) (w1.setRow (w.heap.size + 1) (r.outs p4 p6)) (w.heap.size + 1) 88 88 (r.outs p4 p6) (0, 0) _ HFin.out.2 Tryf.underlying88 rfl (by kernel_rfl)
  refine bodyPost_ret (v := .agg (r.outs p4 p6)) (by rw [results_cell1 Tryf.results18]; show Result.andThen ((asAddr (.pointer (some ⟨w.heap.size + 1, 0, none⟩))).run Tryf.prog _) _ = _; simp only [asAddr, Sem.run_pure, Result.andThen_ok, hl]) rfl ?_
  exact ⟨rfl, HFin.out.1.2.2⟩

end Go.Proofs.Qxb6003713aFmt
