import Derived.Test.Qxb6003778aFmtRoA
import Derived.Deep.CutRange
import Derived.Deep.RegionHeld3
namespace Go.Proofs.Qxb6003778aFmt
open Go.RowKit Go.Extern.Stop Go.Stop Go.Extern
set_option linter.unusedVariables false
set_option linter.unusedSimpArgs false

abbrev O36 : Obj := .cells Z11 36
theorem below_mid {w0 w w' : World} (h : Below w0.heap.size w0 w) (hb : Below w.heap.size w w' ∨ Below (w.alloc O36).heap.size (w.alloc O36) w') : Below w0.heap.size w0 w' := by
  rcases hb with hb | hb
  · exact h.trans (hb.mono h.size)
  · have h2 : Below w0.heap.size w0 (w.alloc O36) := h.alloc h.size _
    exact h2.trans (hb.mono h2.size)
theorem blk_mid {w w' : World} (hb : Below (w.alloc O36).heap.size (w.alloc O36) w') : Blk w' w.heap.size 36 Z11 := (boxed1 hb).1
theorem blk_mid2 {w w' : World} {a b : Obj} (hb : Below (((w.alloc a).alloc b).alloc O36).heap.size (((w.alloc a).alloc b).alloc O36) w') : Blk w' (w.heap.size + 2) 36 Z11 := by
  have := blk_mid hb
  simpa using this
theorem blk_on {w w' : World} {g : Nat} {T : TypeId} {xs : Array Value} (hb : Below w.heap.size w w') (h : Blk w g T xs) : Blk w' g T xs := (hb.block _ h.lt).trans h
theorem cells11 {w : World} {g : Nat} (h : Blk w g 36 Z11) : w.cell? ⟨g, 0, none⟩ = some (.int .u32 0) ∧ w.cell? ⟨g, 1, none⟩ = some (.int .u32 0) ∧ w.cell? ⟨g, 2, none⟩ = some (.int .u64 0) ∧ w.cell? ⟨g, 3, none⟩ = some (.int .u64 0) ∧ w.cell? ⟨g, 4, none⟩ = some (.pointer none) ∧ w.cell? ⟨g, 5, none⟩ = some (.int .u64 0) ∧ w.cell? ⟨g, 6, none⟩ = some (.int .u64 0) ∧ w.cell? ⟨g, 7, none⟩ = some (.pointer none) ∧ w.cell? ⟨g, 8, none⟩ = some (.bool false) ∧ w.cell? ⟨g, 9, none⟩ = some (.bool false) ∧ w.cell? ⟨g, 10, none⟩ = some (.slice none 0 0) ∧ ∀ k, w.frozen? ⟨g, k, none⟩ = false := ⟨h.cell 0, h.cell 1, h.cell 2, h.cell 3, h.cell 4, h.cell 5, h.cell 6, h.cell 7, h.cell 8, h.cell 9, h.cell 10, h.frozen⟩

theorem info23 : (Tryf.prog.info? 23).map (·.size) = some 16 := by kernel_rfl
theorem view_set {W : World} {ao : Option Addr} {l : List Value} {mb : Nat} (k : Nat) (v : Value) (h : View W ao l) (hne : ∀ b off, ao = some ⟨b, off, none⟩ → b ≠ mb) : View (W.setCell ⟨mb, k, none⟩ v) ao l :=
  h.kept (Kept.set (X := (· = mb)) (Kept.refl W _) (.inl rfl) v) (fun b off e q => hne b off e q)
theorem below_set {w0 W : World} {mb : Nat} (k : Nat) (v : Value) (h : Below w0.heap.size w0 W) (hm : w0.heap.size ≤ mb) : Below w0.heap.size w0 (W.setCell ⟨mb, k, none⟩ v) :=
  h.setCell (p := ⟨mb, k, none⟩) hm v
theorem fin_all {w0 W : World} {mb : Nat} {ao : Option Addr} {l : List Value} (x0 x1 x2 x3 x4 x5 x6 x7 x8 x9 x10 : Value) (hB : Below w0.heap.size w0 W) (hM : Blk W mb 36 Z11) (hm : w0.heap.size ≤ mb) (hV : View W ao l) (hne : ∀ b off, ao = some ⟨b, off, none⟩ → b ≠ mb) :
    Below w0.heap.size w0 (((((((((((W.setCell ⟨mb, 0, none⟩ x0).setCell ⟨mb, 1, none⟩ x1).setCell ⟨mb, 2, none⟩ x2).setCell ⟨mb, 3, none⟩ x3).setCell ⟨mb, 4, none⟩ x4).setCell ⟨mb, 5, none⟩ x5).setCell ⟨mb, 6, none⟩ x6).setCell ⟨mb, 7, none⟩ x7).setCell ⟨mb, 8, none⟩ x8).setCell ⟨mb, 9, none⟩ x9).setCell ⟨mb, 10, none⟩ x10) ∧ Blk (((((((((((W.setCell ⟨mb, 0, none⟩ x0).setCell ⟨mb, 1, none⟩ x1).setCell ⟨mb, 2, none⟩ x2).setCell ⟨mb, 3, none⟩ x3).setCell ⟨mb, 4, none⟩ x4).setCell ⟨mb, 5, none⟩ x5).setCell ⟨mb, 6, none⟩ x6).setCell ⟨mb, 7, none⟩ x7).setCell ⟨mb, 8, none⟩ x8).setCell ⟨mb, 9, none⟩ x9).setCell ⟨mb, 10, none⟩ x10) mb 36 #[x0, x1, x2, x3, x4, x5, x6, x7, x8, x9, x10] ∧ View (((((((((((W.setCell ⟨mb, 0, none⟩ x0).setCell ⟨mb, 1, none⟩ x1).setCell ⟨mb, 2, none⟩ x2).setCell ⟨mb, 3, none⟩ x3).setCell ⟨mb, 4, none⟩ x4).setCell ⟨mb, 5, none⟩ x5).setCell ⟨mb, 6, none⟩ x6).setCell ⟨mb, 7, none⟩ x7).setCell ⟨mb, 8, none⟩ x8).setCell ⟨mb, 9, none⟩ x9).setCell ⟨mb, 10, none⟩ x10) ao l :=
  ⟨(below_set 10 x10 (below_set 9 x9 (below_set 8 x8 (below_set 7 x7 (below_set 6 x6 (below_set 5 x5 (below_set 4 x4 (below_set 3 x3 (below_set 2 x2 (below_set 1 x1 (below_set 0 x0 hB hm) hm) hm) hm) hm) hm) hm) hm) hm) hm) hm), by have h := (((((((((((hM.set 0 x0).set 1 x1).set 2 x2).set 3 x3).set 4 x4).set 5 x5).set 6 x6).set 7 x7).set 8 x8).set 9 x9).set 10 x10); simpa only [Z11, List.setIfInBounds_toArray, List.set_cons_zero, List.set_cons_succ] using h, (view_set 10 x10 (view_set 9 x9 (view_set 8 x8 (view_set 7 x7 (view_set 6 x6 (view_set 5 x5 (view_set 4 x4 (view_set 3 x3 (view_set 2 x2 (view_set 1 x1 (view_set 0 x0 hV hne) hne) hne) hne) hne) hne) hne) hne) hne) hne) hne)⟩
theorem rangeBlk {w : World} {g : Nat} {T : TypeId} {xs : Array Value} (h : Blk w g T xs) : w.rangeAt g 0 xs.toList := fun j v hv => by
  rw [Nat.zero_add, h.cell]; simpa using hv
theorem range1 {w W : World} {o1 o2 : Nat → UInt8} (h : Below ((w.alloc (.cells (ar16 o1) 23)).alloc (.cells (ar16 o2) 23)).heap.size ((w.alloc (.cells (ar16 o1) 23)).alloc (.cells (ar16 o2) 23)) W) : W.rangeAt w.heap.size 0 (ar16 o1).toList := rangeBlk (boxed2 h).2.1
theorem range2 {w W : World} {o1 o2 : Nat → UInt8} (h : Below ((w.alloc (.cells (ar16 o1) 23)).alloc (.cells (ar16 o2) 23)).heap.size ((w.alloc (.cells (ar16 o1) 23)).alloc (.cells (ar16 o2) 23)) W) : W.rangeAt (w.heap.size + 1) 0 (ar16 o2).toList := rangeBlk (boxed2 h).1
theorem below_al0 {w0 wa : World} (e : wa = (w0.alloc O36).drew) : Below w0.heap.size w0 wa := e ▸ below_drew ((Below.refl _ _).alloc (Nat.le_refl _) _)
theorem blk_new3 (w : World) (a b : Obj) : Blk (((w.alloc a).alloc b).alloc O36).drew (w.heap.size + 1 + 1) 36 Z11 := by
  have := (Blk.new ((w.alloc a).alloc b) 36 Z11).drew
  simpa using this
theorem below_al {w0 w wa : World} (h : Below w0.heap.size w0 w) (e : wa = w.alloc O36) : Below w0.heap.size w0 wa := e ▸ h.alloc h.size _
theorem below_al1 {w0 w1 w2 : World} {n : Nat} {o : Obj} (h : Below n w0 w1) (hn : n ≤ w1.heap.size) (h2 : Below (w1.alloc o).heap.size (w1.alloc o) w2) : Below n w0 w2 := by
  have h3 : Below n w0 (w1.alloc o) := h.alloc hn _
  exact h3.trans (h2.mono (Nat.le_trans hn (by simp)))
theorem blk_al1 {w1 w2 : World} {o : Obj} {g : Nat} {T : TypeId} {xs : Array Value} (h : Blk w1 g T xs) (h2 : Below (w1.alloc o).heap.size (w1.alloc o) w2) : Blk w2 g T xs := by
  have h3 : Blk (w1.alloc o) g T xs := blk_on ((Below.refl _ _).alloc (Nat.le_refl _) _) h
  exact blk_on h2 h3
theorem below_drewNr {B : Nat} {w w' : World} (h : Below B w w') (n : Nat) : Below B w (w'.drewN n) := ⟨h.os, h.tape, h.output, h.size, h.block⟩
theorem eq98 (w : World) (z : Option Addr) : (Op.equalIn 9998 28 (.pointer z) (.pointer z)).run Tryf.prog w = .ok true w := by
  cases z
  · exact eqd_nil 9997 w
  · exact eqd_same 9997 _ w

set_option maxRecDepth 100000 in
set_option maxHeartbeats 4000000 in
theorem root_x (F : Interp) (n1 n2 : Nat) (h1 : n1 = 0 ∨ n1 = 4 ∨ n1 = 6) (h2 : n2 = 0 ∨ n2 = 4 ∨ n2 = 6) (pa la : Nat) (hpa : pa < 4294967296) (hla : la < 4294967296) (o1 o2 : Nat → UInt8) (lc a4 : Bool) (da : Option Addr) (dat : List UInt8) (dc : Nat) (ts : Int) (p4 p6 : Addr) (w : World) (hF : F.answers w.tape) (hz : Zs w p4 p6) (hD : View w da (bc dat)) (hdn : da = none → dat = []) (hdl : dat.length ≤ 1073741824) :
    Calls Tryf.prog 3 #[.int .u32 pa, .int .u32 la, .int .u8 n1, .agg (ar16 o1), .int .u8 n2, .agg (ar16 o2), .bool lc, .bool a4, .slice da dat.length dc, .int .u32 ts] w fun e w' => e = .returned (.bool true) ∧ Below w.heap.size w w' := by
  have HZ : Hid (∀ W, Below w.heap.size w W → Zs W p4 p6) := fun W hb => hz.later hb
  have HD : Hid (View w da (bc dat)) := hD
  have HDn : Hid (da = none → dat = []) := hdn
  have HDl : Hid (dat.length ≤ 1073741824) := hdl
  have HW0 : Hid (Below w.heap.size w ((w.alloc (.cells (ar16 o1) 23)).alloc (.cells (ar16 o2) 23))) := ((Below.refl _ _).alloc (Nat.le_refl _) _).alloc (by simp) _
  have SX : Hid (∀ W, Below ((w.alloc (.cells (ar16 o1) 23)).alloc (.cells (ar16 o2) 23)).heap.size ((w.alloc (.cells (ar16 o1) 23)).alloc (.cells (ar16 o2) 23)) W → W.cell? ⟨w.heap.size + 1, 0, none⟩ = some (.int .u8 (o2 0).toNat) ∧ W.cell? ⟨w.heap.size + 1, 1, none⟩ = some (.int .u8 (o2 1).toNat) ∧ W.cell? ⟨w.heap.size + 1, 2, none⟩ = some (.int .u8 (o2 2).toNat) ∧ W.cell? ⟨w.heap.size + 1, 3, none⟩ = some (.int .u8 (o2 3).toNat) ∧ W.cell? ⟨w.heap.size + 1, 4, none⟩ = some (.int .u8 (o2 4).toNat) ∧ W.cell? ⟨w.heap.size + 1, 5, none⟩ = some (.int .u8 (o2 5).toNat) ∧ W.cell? ⟨w.heap.size + 1, 6, none⟩ = some (.int .u8 (o2 6).toNat) ∧ W.cell? ⟨w.heap.size + 1, 7, none⟩ = some (.int .u8 (o2 7).toNat) ∧ W.cell? ⟨w.heap.size + 1, 8, none⟩ = some (.int .u8 (o2 8).toNat) ∧ W.cell? ⟨w.heap.size + 1, 9, none⟩ = some (.int .u8 (o2 9).toNat) ∧ W.cell? ⟨w.heap.size + 1, 10, none⟩ = some (.int .u8 (o2 10).toNat) ∧ W.cell? ⟨w.heap.size + 1, 11, none⟩ = some (.int .u8 (o2 11).toNat) ∧ W.cell? ⟨w.heap.size + 1, 12, none⟩ = some (.int .u8 (o2 12).toNat) ∧ W.cell? ⟨w.heap.size + 1, 13, none⟩ = some (.int .u8 (o2 13).toNat) ∧ W.cell? ⟨w.heap.size + 1, 14, none⟩ = some (.int .u8 (o2 14).toNat) ∧ W.cell? ⟨w.heap.size + 1, 15, none⟩ = some (.int .u8 (o2 15).toNat)) := fun W hb => by
    obtain ⟨h1, h0, _⟩ := boxed2 hb
    exact ⟨h1.cell 0, h1.cell 1, h1.cell 2, h1.cell 3, h1.cell 4, h1.cell 5, h1.cell 6, h1.cell 7, h1.cell 8, h1.cell 9, h1.cell 10, h1.cell 11, h1.cell 12, h1.cell 13, h1.cell 14, h1.cell 15⟩
  have l1 : ¬ (1073741824 : Int) < (dat.length : Int) := by omega
  clear hz hD hdn hdl
  have H1 := Hid.mk'' h1
  have H2 := Hid.mk'' h2
  have HA := Hid.mk'' hpa
  have HL := Hid.mk'' hla
  have HF := Hid.mk'' hF
  clear h1 h2 hpa hla hF SX
  go_enter Tryf.func3, Tryf.ntmps3
  go_upto_region 3 with fail
  go_cut [41] from 32 to 40 (fun s wx => s = .bool false ∧ wx = ((w.alloc (.cells (ar16 o1) 23)).alloc (.cells (ar16 o2) 23)))
  case first =>
    rcases H1.out with rfl | rfl | rfl
    all_goals (
      go_wp2_with fail
      go_meet
      exact ⟨rfl, rfl⟩)
  case rest =>
  obtain ⟨rfl, rfl⟩ := hcut
  go_upto_region 5 with fail
  go_cut [51] from 42 to 50 (fun s wx => s = .bool false ∧ wx = ((w.alloc (.cells (ar16 o1) 23)).alloc (.cells (ar16 o2) 23)))
  case first =>
    rcases H2.out with rfl | rfl | rfl
    all_goals (
      go_wp2_with fail
      go_meet
      exact ⟨rfl, rfl⟩)
  case rest =>
  obtain ⟨rfl, rfl⟩ := hcut
  go_wp2_with fail
  go_cut [21] from 52 to 64 (fun s wx => ∃ (mb : Nat) (a3 : Option Addr), s = .pointer (some ⟨mb, 0, none⟩) ∧ Hid (Blk wx mb 36 (msgOf pa la (aHi n1 o1) (aLo n1 o1) (aZ p4 p6 n1) (aHi n2 o2) (aLo n2 o2) (aZ p4 p6 n2) lc a4 (.slice a3 dat.length dat.length))) ∧ Hid (View wx a3 (bc dat)) ∧ Hid (a3 = none → dat = []) ∧ Hid (Below w.heap.size w wx))
  case first =>
    refine wp_region_held_drew (S := fun W => Hid (Below ((w.alloc (.cells (ar16 o1) 23)).alloc (.cells (ar16 o2) 23)).heap.size ((w.alloc (.cells (ar16 o1) 23)).alloc (.cells (ar16 o2) 23)) W)) (by kernel_rfl) (below_drew (Below.refl _ _)) (fun hHeld => ?_)
    refine wpAnyH_take (i := 0) (oi := { dst := some 52, op := .move (.tmp 0), type := 22, pos := _, after := #[], guard := none }) (v := .int .u32 pa) rfl (by kernel_rfl) (by kernel_rfl) (by kernel_rfl) (fun _ _ _ h => h) (Or.inl ⟨by rfl, fun W hSW => by go_simp⟩) (by assumption) ?_
    try simp only [Act.put, List.setIfInBounds_toArray, List.set_cons_zero, List.set_cons_succ]
    refine wpAnyH_take (i := 1) (oi := { dst := some 53, op := .move (.tmp 1), type := 22, pos := _, after := #[], guard := none }) (v := .int .u32 la) rfl (by kernel_rfl) (by kernel_rfl) (by kernel_rfl) (fun _ _ _ h => h) (Or.inl ⟨by rfl, fun W hSW => by go_simp⟩) (by assumption) ?_
    try simp only [Act.put, List.setIfInBounds_toArray, List.set_cons_zero, List.set_cons_succ]
    refine wpAnyH_take (i := 2) (oi := { dst := some 54, op := .move (.tmp 2), type := 5, pos := _, after := #[], guard := none }) (v := .int .u8 n1) rfl (by kernel_rfl) (by kernel_rfl) (by kernel_rfl) (fun _ _ _ h => h) (Or.inl ⟨by rfl, fun W hSW => by go_simp⟩) (by assumption) ?_
    try simp only [Act.put, List.setIfInBounds_toArray, List.set_cons_zero, List.set_cons_succ]
    refine wpAnyH_take (i := 3) (oi := { dst := some 55, op := .load 23 (.tmp 13), type := 23, pos := _, after := #[], guard := none }) (v := .agg (ar16 o1)) rfl (by kernel_rfl) (by kernel_rfl) (by kernel_rfl) (fun _ _ _ h => h) (yieldsIf_load_mid (by rfl) _ _ rfl _ _ rfl (ar16 o1).toList _ (fun W h => range1 h.out) Tryf.underlying23 rfl info23) (by assumption) ?_
    try simp only [Act.put, List.setIfInBounds_toArray, List.set_cons_zero, List.set_cons_succ]
    refine wpAnyH_take (i := 5) (oi := { dst := some 57, op := .move (.tmp 4), type := 5, pos := _, after := #[], guard := none }) (v := .int .u8 n2) rfl (by kernel_rfl) (by kernel_rfl) (by kernel_rfl) (fun _ _ _ h => h) (Or.inl ⟨by rfl, fun W hSW => by go_simp⟩) (by assumption) ?_
    try simp only [Act.put, List.setIfInBounds_toArray, List.set_cons_zero, List.set_cons_succ]
    refine wpAnyH_take (i := 6) (oi := { dst := some 58, op := .load 23 (.tmp 15), type := 23, pos := _, after := #[], guard := none }) (v := .agg (ar16 o2)) rfl (by kernel_rfl) (by kernel_rfl) (by kernel_rfl) (fun _ _ _ h => h) (yieldsIf_load_mid (by rfl) _ _ rfl _ _ rfl (ar16 o2).toList _ (fun W h => range2 h.out) Tryf.underlying23 rfl info23) (by assumption) ?_
    try simp only [Act.put, List.setIfInBounds_toArray, List.set_cons_zero, List.set_cons_succ]
    refine wpAnyH_take (i := 8) (oi := { dst := some 60, op := .move (.tmp 6), type := 4, pos := _, after := #[], guard := none }) (v := .bool lc) rfl (by kernel_rfl) (by kernel_rfl) (by kernel_rfl) (fun _ _ _ h => h) (Or.inl ⟨by rfl, fun W hSW => by go_simp⟩) (by assumption) ?_
    try simp only [Act.put, List.setIfInBounds_toArray, List.set_cons_zero, List.set_cons_succ]
    refine wpAnyH_take (i := 9) (oi := { dst := some 61, op := .move (.tmp 7), type := 4, pos := _, after := #[], guard := none }) (v := .bool a4) rfl (by kernel_rfl) (by kernel_rfl) (by kernel_rfl) (fun _ _ _ h => h) (Or.inl ⟨by rfl, fun W hSW => by go_simp⟩) (by assumption) ?_
    try simp only [Act.put, List.setIfInBounds_toArray, List.set_cons_zero, List.set_cons_succ]
    refine wpAnyH_take (i := 10) (oi := { dst := some 62, op := .move (.tmp 8), type := 24, pos := _, after := #[], guard := none }) (v := .slice da dat.length dc) rfl (by kernel_rfl) (by kernel_rfl) (by kernel_rfl) (fun _ _ _ h => h) (Or.inl ⟨by rfl, fun W hSW => by go_simp⟩) (by assumption) ?_
    try simp only [Act.put, List.setIfInBounds_toArray, List.set_cons_zero, List.set_cons_succ]
    refine wpAnyH_ready (rs := [4, 13]) (by kernel_rfl) (by simp) ?_
    refine AllReadyH.cons (o := { dst := some 56, op := .call { callee := .value (.func 4), args := #[.tmp 54, .tmp 55], argTypes := #[5, 23] }, type := 32, pos := _, after := #[{ on := 2, ground := .data }, { on := 3, ground := .data }], guard := none }) rfl (fun K hK => ?_) (AllReadyH.cons (o := { dst := some 21, op := .alloc 36, type := 0, pos := _, after := #[], guard := none }) rfl (fun K hK => ?_) AllReadyH.nil)
    · go_simp
      go_at_call 4
      refine (zaddr_c p4 p6 n1 _ o1 _ (HZ.out _ (HW0.out.trans (hHeld.out.mono HW0.out.size))) (oct16 o1)).mono ?_
      rintro e w1 ⟨rfl, hb1⟩
      have HB1 : Hid (Below ((w.alloc (.cells (ar16 o1) 23)).alloc (.cells (ar16 o2) 23)).heap.size ((w.alloc (.cells (ar16 o1) 23)).alloc (.cells (ar16 o2) 23)) w1) := hHeld.out.trans (hb1.mono hHeld.out.size)
      clear hb1 hHeld
      go_wp2_with fail
      refine hK.out _ _ (HB1) (fun hHeld => ?_)
      clear hK K
      try simp only [Act.put, List.setIfInBounds_toArray, List.set_cons_zero, List.set_cons_succ]
      refine wpAnyH_ready (rs := [7, 13]) (by kernel_rfl) (by simp) ?_
      refine AllReadyH.cons (o := { dst := some 59, op := .call { callee := .value (.func 4), args := #[.tmp 57, .tmp 58], argTypes := #[5, 23] }, type := 32, pos := _, after := #[{ on := 5, ground := .data }, { on := 6, ground := .data }, { on := 4, ground := .chain }], guard := none }) rfl (fun K hK => ?_) (AllReadyH.cons (o := { dst := some 21, op := .alloc 36, type := 0, pos := _, after := #[], guard := none }) rfl (fun K hK => ?_) AllReadyH.nil)
      · go_simp
        go_at_call 4
        refine (zaddr_c p4 p6 n2 _ o2 _ (HZ.out _ (HW0.out.trans (hHeld.out.mono HW0.out.size))) (oct16 o2)).mono ?_
        rintro e w2 ⟨rfl, hb1⟩
        have HB2 : Hid (Below ((w.alloc (.cells (ar16 o1) 23)).alloc (.cells (ar16 o2) 23)).heap.size ((w.alloc (.cells (ar16 o1) 23)).alloc (.cells (ar16 o2) 23)) w2) := hHeld.out.trans (hb1.mono hHeld.out.size)
        clear hb1 hHeld
        go_wp2_with fail
        refine hK.out _ _ (HB2) (fun hHeld => ?_)
        clear hK K
        try simp only [Act.put, List.setIfInBounds_toArray, List.set_cons_zero, List.set_cons_succ]
        refine wpAnyH_ready (rs := [11, 13]) (by kernel_rfl) (by simp) ?_
        refine AllReadyH.cons (o := { dst := some 63, op := .call { callee := .value (.func 5), args := #[.tmp 62], argTypes := #[24] }, type := 24, pos := _, after := #[{ on := 10, ground := .data }, { on := 7, ground := .chain }], guard := none }) rfl (fun K hK => ?_) (AllReadyH.cons (o := { dst := some 21, op := .alloc 36, type := 0, pos := _, after := #[], guard := none }) rfl (fun K hK => ?_) AllReadyH.nil)
        · go_simp
          go_at_call 5
          refine (clone_bytes da dc dat _ (HD.out.all (HW0.out.trans (hHeld.out.mono HW0.out.size))) HDn.out (by have := HDl.out; omega)).mono ?_
          rintro e w3 ⟨a3, rfl, hV3, hn3, hp3, hb1⟩
          have HB3 : Hid (Below ((w.alloc (.cells (ar16 o1) 23)).alloc (.cells (ar16 o2) 23)).heap.size ((w.alloc (.cells (ar16 o1) 23)).alloc (.cells (ar16 o2) 23)) w3) := hHeld.out.trans (hb1.mono hHeld.out.size)
          have HV3 := Hid.mk'' hV3
          have HN3 : Hid (a3 = none → dat = []) := fun q => List.length_eq_zero_iff.mp (hn3 q)
          have HP3 : Hid (∀ b off, a3 = some ⟨b, off, none⟩ → b < w3.heap.size) := fun b off q => (hp3 b off q).2
          clear hV3 hn3 hp3
          clear hb1 hHeld
          go_wp2_with fail
          refine hK.out _ _ (HB3) (fun hHeld => ?_)
          clear hK K
          try simp only [Act.put, List.setIfInBounds_toArray, List.set_cons_zero, List.set_cons_succ]
          refine wpAnyH_take (i := 12) (oi := { dst := some 64, op := .build 36 #[(0, .tmp 52), (1, .tmp 53), (2, .tmp 56), (3, .tmp 59), (4, .tmp 60), (5, .tmp 61), (6, .tmp 63)], type := 36, pos := _, after := #[{ on := 0, ground := .data }, { on := 1, ground := .data }, { on := 4, ground := .data }, { on := 7, ground := .data }, { on := 8, ground := .data }, { on := 9, ground := .data }, { on := 11, ground := .data }], guard := none }) (v := .agg #[.int .u32 pa, .int .u32 la, .int .u64 (aHi n1 o1 : Nat), .int .u64 (aLo n1 o1 : Nat), .pointer (aZ p4 p6 n1), .int .u64 (aHi n2 o2 : Nat), .int .u64 (aLo n2 o2 : Nat), .pointer (aZ p4 p6 n2), .bool lc, .bool a4, .slice a3 dat.length dat.length]) rfl (by kernel_rfl) (by kernel_rfl) (by kernel_rfl) (fun _ _ _ h => h) (Or.inl ⟨by rfl, fun W hSW => by go_simp⟩) (by assumption) ?_
          try simp only [Act.put, List.setIfInBounds_toArray, List.set_cons_zero, List.set_cons_succ]
          refine wpAnyH_ready (rs := [13]) (by kernel_rfl) (by simp) ?_
          refine AllReadyH.cons (o := { dst := some 21, op := .alloc 36, type := 0, pos := _, after := #[], guard := none }) rfl (fun K hK => ?_) AllReadyH.nil
          go_simp
          obtain ⟨wa, hwa⟩ : ∃ wa, wa = World.alloc w3 O36 := ⟨_, rfl⟩
          rw [← hwa]
          obtain ⟨mb, hmb⟩ : ∃ mb : Nat, mb = w3.heap.size := ⟨_, rfl⟩
          rw [← hmb]
          have HM : Hid (Blk wa mb 36 Z11) := by subst hwa; subst hmb; exact Blk.new _ _ _
          have HBb := Hid.mk'' (below_al hHeld.out hwa)
          have HMs : Hid (((w.alloc (.cells (ar16 o1) 23)).alloc (.cells (ar16 o2) 23)).heap.size ≤ mb) := by subst hmb; exact hHeld.out.size
          have HNE : Hid (∀ b off, a3 = some ⟨b, off, none⟩ → b ≠ mb) := fun b off q e => by have := HP3.out b off q; omega
          have HVn : Hid (View wa a3 (bc dat)) := by subst hwa; exact HV3.out.alloc _
          clear HV3
          have HV3 := HVn
          clear HVn
          clear hwa hmb hHeld
          refine hK.out _ _ (HBb) (fun hHeld => ?_)
          clear hK K
          try simp only [Act.put, List.setIfInBounds_toArray, List.set_cons_zero, List.set_cons_succ]
          obtain ⟨m0, m1, m2, m3, m4, m5, m6, m7, m8, m9, m10, mf⟩ := cells11 HM.out
          refine wpAnyH_ready (rs := [14]) (by kernel_rfl) (by simp) ?_
          refine AllReadyH.cons (o := { dst := none, op := .store 36 (.tmp 21) (.tmp 64), type := 0, pos := _, after := #[{ on := 13, ground := .data }, { on := 12, ground := .data }, { on := 11, ground := .chain }, { on := 0, ground := .phase }, { on := 1, ground := .phase }, { on := 2, ground := .phase }, { on := 3, ground := .phase }, { on := 4, ground := .phase }, { on := 5, ground := .phase }, { on := 6, ground := .phase }, { on := 7, ground := .phase }, { on := 8, ground := .phase }, { on := 9, ground := .phase }, { on := 10, ground := .phase }, { on := 11, ground := .phase }, { on := 12, ground := .phase }, { on := 13, ground := .phase }], guard := none }) rfl (fun K hK => ?_) AllReadyH.nil
          go_simp
          have HFin := Hid.mk'' (fin_all (.int .u32 pa) (.int .u32 la) (.int .u64 (aHi n1 o1 : Nat)) (.int .u64 (aLo n1 o1 : Nat)) (.pointer (aZ p4 p6 n1)) (.int .u64 (aHi n2 o2 : Nat)) (.int .u64 (aLo n2 o2 : Nat)) (.pointer (aZ p4 p6 n2)) (.bool lc) (.bool a4) (.slice a3 dat.length dat.length) hHeld.out HM.out HMs.out HV3.out HNE.out)
          refine hK.out _ _ (HFin.out.1) (fun hHeld => ?_)
          clear hK K
          refine wpAnyH_done (by kernel_rfl) ?_ _
          go_wp2_with fail
          go_meet
          exact ⟨mb, a3, rfl, HFin.out.2.1, HFin.out.2.2, HN3.out, HW0.out.trans (hHeld.out.mono HW0.out.size)⟩
        · go_simp
          obtain ⟨wa, hwa⟩ : ∃ wa, wa = World.alloc w2 O36 := ⟨_, rfl⟩
          rw [← hwa]
          obtain ⟨mb, hmb⟩ : ∃ mb : Nat, mb = w2.heap.size := ⟨_, rfl⟩
          rw [← hmb]
          have HM : Hid (Blk wa mb 36 Z11) := by subst hwa; subst hmb; exact Blk.new _ _ _
          have HBa := Hid.mk'' (below_al hHeld.out hwa)
          have HMs : Hid (((w.alloc (.cells (ar16 o1) 23)).alloc (.cells (ar16 o2) 23)).heap.size ≤ mb) := by subst hmb; exact hHeld.out.size
          clear hwa hmb hHeld
          refine hK.out _ _ (HBa) (fun hHeld => ?_)
          clear hK K
          try simp only [Act.put, List.setIfInBounds_toArray, List.set_cons_zero, List.set_cons_succ]
          refine wpAnyH_ready (rs := [11]) (by kernel_rfl) (by simp) ?_
          refine AllReadyH.cons (o := { dst := some 63, op := .call { callee := .value (.func 5), args := #[.tmp 62], argTypes := #[24] }, type := 24, pos := _, after := #[{ on := 10, ground := .data }, { on := 7, ground := .chain }], guard := none }) rfl (fun K hK => ?_) AllReadyH.nil
          go_simp
          go_at_call 5
          refine (clone_bytes da dc dat _ (HD.out.all (HW0.out.trans (hHeld.out.mono HW0.out.size))) HDn.out (by have := HDl.out; omega)).mono ?_
          rintro e w3 ⟨a3, rfl, hV3, hn3, hp3, hb1⟩
          have HB3 : Hid (Below ((w.alloc (.cells (ar16 o1) 23)).alloc (.cells (ar16 o2) 23)).heap.size ((w.alloc (.cells (ar16 o1) 23)).alloc (.cells (ar16 o2) 23)) w3) := hHeld.out.trans (hb1.mono hHeld.out.size)
          have HV3 := Hid.mk'' hV3
          have HN3 : Hid (a3 = none → dat = []) := fun q => List.length_eq_zero_iff.mp (hn3 q)
          have HNE : Hid (∀ b off, a3 = some ⟨b, off, none⟩ → b ≠ mb) := fun b off q e => by have := (hp3 b off q).1; have := HM.out.lt; omega
          clear hV3 hn3 hp3
          have HMn := Hid.mk'' (blk_on hb1 HM.out)
          clear HM
          have HM := HMn
          clear HMn
          clear hb1 hHeld
          go_wp2_with fail
          refine hK.out _ _ (HB3) (fun hHeld => ?_)
          clear hK K
          try simp only [Act.put, List.setIfInBounds_toArray, List.set_cons_zero, List.set_cons_succ]
          refine wpAnyH_take (i := 12) (oi := { dst := some 64, op := .build 36 #[(0, .tmp 52), (1, .tmp 53), (2, .tmp 56), (3, .tmp 59), (4, .tmp 60), (5, .tmp 61), (6, .tmp 63)], type := 36, pos := _, after := #[{ on := 0, ground := .data }, { on := 1, ground := .data }, { on := 4, ground := .data }, { on := 7, ground := .data }, { on := 8, ground := .data }, { on := 9, ground := .data }, { on := 11, ground := .data }], guard := none }) (v := .agg #[.int .u32 pa, .int .u32 la, .int .u64 (aHi n1 o1 : Nat), .int .u64 (aLo n1 o1 : Nat), .pointer (aZ p4 p6 n1), .int .u64 (aHi n2 o2 : Nat), .int .u64 (aLo n2 o2 : Nat), .pointer (aZ p4 p6 n2), .bool lc, .bool a4, .slice a3 dat.length dat.length]) rfl (by kernel_rfl) (by kernel_rfl) (by kernel_rfl) (fun _ _ _ h => h) (Or.inl ⟨by rfl, fun W hSW => by go_simp⟩) (by assumption) ?_
          try simp only [Act.put, List.setIfInBounds_toArray, List.set_cons_zero, List.set_cons_succ]
          obtain ⟨m0, m1, m2, m3, m4, m5, m6, m7, m8, m9, m10, mf⟩ := cells11 HM.out
          refine wpAnyH_ready (rs := [14]) (by kernel_rfl) (by simp) ?_
          refine AllReadyH.cons (o := { dst := none, op := .store 36 (.tmp 21) (.tmp 64), type := 0, pos := _, after := #[{ on := 13, ground := .data }, { on := 12, ground := .data }, { on := 11, ground := .chain }, { on := 0, ground := .phase }, { on := 1, ground := .phase }, { on := 2, ground := .phase }, { on := 3, ground := .phase }, { on := 4, ground := .phase }, { on := 5, ground := .phase }, { on := 6, ground := .phase }, { on := 7, ground := .phase }, { on := 8, ground := .phase }, { on := 9, ground := .phase }, { on := 10, ground := .phase }, { on := 11, ground := .phase }, { on := 12, ground := .phase }, { on := 13, ground := .phase }], guard := none }) rfl (fun K hK => ?_) AllReadyH.nil
          go_simp
          have HFin := Hid.mk'' (fin_all (.int .u32 pa) (.int .u32 la) (.int .u64 (aHi n1 o1 : Nat)) (.int .u64 (aLo n1 o1 : Nat)) (.pointer (aZ p4 p6 n1)) (.int .u64 (aHi n2 o2 : Nat)) (.int .u64 (aLo n2 o2 : Nat)) (.pointer (aZ p4 p6 n2)) (.bool lc) (.bool a4) (.slice a3 dat.length dat.length) hHeld.out HM.out HMs.out HV3.out HNE.out)
          refine hK.out _ _ (HFin.out.1) (fun hHeld => ?_)
          clear hK K
          refine wpAnyH_done (by kernel_rfl) ?_ _
          go_wp2_with fail
          go_meet
          exact ⟨mb, a3, rfl, HFin.out.2.1, HFin.out.2.2, HN3.out, HW0.out.trans (hHeld.out.mono HW0.out.size)⟩
      · go_simp
        obtain ⟨wa, hwa⟩ : ∃ wa, wa = World.alloc w1 O36 := ⟨_, rfl⟩
        rw [← hwa]
        obtain ⟨mb, hmb⟩ : ∃ mb : Nat, mb = w1.heap.size := ⟨_, rfl⟩
        rw [← hmb]
        have HM : Hid (Blk wa mb 36 Z11) := by subst hwa; subst hmb; exact Blk.new _ _ _
        have HBa := Hid.mk'' (below_al hHeld.out hwa)
        have HMs : Hid (((w.alloc (.cells (ar16 o1) 23)).alloc (.cells (ar16 o2) 23)).heap.size ≤ mb) := by subst hmb; exact hHeld.out.size
        clear hwa hmb hHeld
        refine hK.out _ _ (HBa) (fun hHeld => ?_)
        clear hK K
        try simp only [Act.put, List.setIfInBounds_toArray, List.set_cons_zero, List.set_cons_succ]
        refine wpAnyH_ready (rs := [7]) (by kernel_rfl) (by simp) ?_
        refine AllReadyH.cons (o := { dst := some 59, op := .call { callee := .value (.func 4), args := #[.tmp 57, .tmp 58], argTypes := #[5, 23] }, type := 32, pos := _, after := #[{ on := 5, ground := .data }, { on := 6, ground := .data }, { on := 4, ground := .chain }], guard := none }) rfl (fun K hK => ?_) AllReadyH.nil
        go_simp
        go_at_call 4
        refine (zaddr_c p4 p6 n2 _ o2 _ (HZ.out _ (HW0.out.trans (hHeld.out.mono HW0.out.size))) (oct16 o2)).mono ?_
        rintro e w2 ⟨rfl, hb1⟩
        have HB2 : Hid (Below ((w.alloc (.cells (ar16 o1) 23)).alloc (.cells (ar16 o2) 23)).heap.size ((w.alloc (.cells (ar16 o1) 23)).alloc (.cells (ar16 o2) 23)) w2) := hHeld.out.trans (hb1.mono hHeld.out.size)
        have HMn := Hid.mk'' (blk_on hb1 HM.out)
        clear HM
        have HM := HMn
        clear HMn
        clear hb1 hHeld
        go_wp2_with fail
        refine hK.out _ _ (HB2) (fun hHeld => ?_)
        clear hK K
        try simp only [Act.put, List.setIfInBounds_toArray, List.set_cons_zero, List.set_cons_succ]
        refine wpAnyH_ready (rs := [11]) (by kernel_rfl) (by simp) ?_
        refine AllReadyH.cons (o := { dst := some 63, op := .call { callee := .value (.func 5), args := #[.tmp 62], argTypes := #[24] }, type := 24, pos := _, after := #[{ on := 10, ground := .data }, { on := 7, ground := .chain }], guard := none }) rfl (fun K hK => ?_) AllReadyH.nil
        go_simp
        go_at_call 5
        refine (clone_bytes da dc dat _ (HD.out.all (HW0.out.trans (hHeld.out.mono HW0.out.size))) HDn.out (by have := HDl.out; omega)).mono ?_
        rintro e w3 ⟨a3, rfl, hV3, hn3, hp3, hb1⟩
        have HB3 : Hid (Below ((w.alloc (.cells (ar16 o1) 23)).alloc (.cells (ar16 o2) 23)).heap.size ((w.alloc (.cells (ar16 o1) 23)).alloc (.cells (ar16 o2) 23)) w3) := hHeld.out.trans (hb1.mono hHeld.out.size)
        have HV3 := Hid.mk'' hV3
        have HN3 : Hid (a3 = none → dat = []) := fun q => List.length_eq_zero_iff.mp (hn3 q)
        have HNE : Hid (∀ b off, a3 = some ⟨b, off, none⟩ → b ≠ mb) := fun b off q e => by have := (hp3 b off q).1; have := HM.out.lt; omega
        clear hV3 hn3 hp3
        have HMn := Hid.mk'' (blk_on hb1 HM.out)
        clear HM
        have HM := HMn
        clear HMn
        clear hb1 hHeld
        go_wp2_with fail
        refine hK.out _ _ (HB3) (fun hHeld => ?_)
        clear hK K
        try simp only [Act.put, List.setIfInBounds_toArray, List.set_cons_zero, List.set_cons_succ]
        refine wpAnyH_take (i := 12) (oi := { dst := some 64, op := .build 36 #[(0, .tmp 52), (1, .tmp 53), (2, .tmp 56), (3, .tmp 59), (4, .tmp 60), (5, .tmp 61), (6, .tmp 63)], type := 36, pos := _, after := #[{ on := 0, ground := .data }, { on := 1, ground := .data }, { on := 4, ground := .data }, { on := 7, ground := .data }, { on := 8, ground := .data }, { on := 9, ground := .data }, { on := 11, ground := .data }], guard := none }) (v := .agg #[.int .u32 pa, .int .u32 la, .int .u64 (aHi n1 o1 : Nat), .int .u64 (aLo n1 o1 : Nat), .pointer (aZ p4 p6 n1), .int .u64 (aHi n2 o2 : Nat), .int .u64 (aLo n2 o2 : Nat), .pointer (aZ p4 p6 n2), .bool lc, .bool a4, .slice a3 dat.length dat.length]) rfl (by kernel_rfl) (by kernel_rfl) (by kernel_rfl) (fun _ _ _ h => h) (Or.inl ⟨by rfl, fun W hSW => by go_simp⟩) (by assumption) ?_
        try simp only [Act.put, List.setIfInBounds_toArray, List.set_cons_zero, List.set_cons_succ]
        obtain ⟨m0, m1, m2, m3, m4, m5, m6, m7, m8, m9, m10, mf⟩ := cells11 HM.out
        refine wpAnyH_ready (rs := [14]) (by kernel_rfl) (by simp) ?_
        refine AllReadyH.cons (o := { dst := none, op := .store 36 (.tmp 21) (.tmp 64), type := 0, pos := _, after := #[{ on := 13, ground := .data }, { on := 12, ground := .data }, { on := 11, ground := .chain }, { on := 0, ground := .phase }, { on := 1, ground := .phase }, { on := 2, ground := .phase }, { on := 3, ground := .phase }, { on := 4, ground := .phase }, { on := 5, ground := .phase }, { on := 6, ground := .phase }, { on := 7, ground := .phase }, { on := 8, ground := .phase }, { on := 9, ground := .phase }, { on := 10, ground := .phase }, { on := 11, ground := .phase }, { on := 12, ground := .phase }, { on := 13, ground := .phase }], guard := none }) rfl (fun K hK => ?_) AllReadyH.nil
        go_simp
        have HFin := Hid.mk'' (fin_all (.int .u32 pa) (.int .u32 la) (.int .u64 (aHi n1 o1 : Nat)) (.int .u64 (aLo n1 o1 : Nat)) (.pointer (aZ p4 p6 n1)) (.int .u64 (aHi n2 o2 : Nat)) (.int .u64 (aLo n2 o2 : Nat)) (.pointer (aZ p4 p6 n2)) (.bool lc) (.bool a4) (.slice a3 dat.length dat.length) hHeld.out HM.out HMs.out HV3.out HNE.out)
        refine hK.out _ _ (HFin.out.1) (fun hHeld => ?_)
        clear hK K
        refine wpAnyH_done (by kernel_rfl) ?_ _
        go_wp2_with fail
        go_meet
        exact ⟨mb, a3, rfl, HFin.out.2.1, HFin.out.2.2, HN3.out, HW0.out.trans (hHeld.out.mono HW0.out.size)⟩
    · go_simp
      obtain ⟨wa, hwa⟩ : ∃ wa, wa = World.drew (World.alloc ((w.alloc (.cells (ar16 o1) 23)).alloc (.cells (ar16 o2) 23)) O36) := ⟨_, rfl⟩
      rw [← hwa]
      obtain ⟨mb, hmb⟩ : ∃ mb : Nat, mb = w.heap.size + 1 + 1 := ⟨_, rfl⟩
      rw [← hmb]
      have HM : Hid (Blk wa mb 36 Z11) := by subst hwa; subst hmb; exact blk_new3 _ _ _
      have HBa := Hid.mk'' (below_al0 hwa)
      have HMs : Hid (((w.alloc (.cells (ar16 o1) 23)).alloc (.cells (ar16 o2) 23)).heap.size ≤ mb) := by subst hmb; simp [Hid]
      clear hwa hmb hHeld
      refine hK.out _ _ (HBa) (fun hHeld => ?_)
      clear hK K
      try simp only [Act.put, List.setIfInBounds_toArray, List.set_cons_zero, List.set_cons_succ]
      refine wpAnyH_ready (rs := [4]) (by kernel_rfl) (by simp) ?_
      refine AllReadyH.cons (o := { dst := some 56, op := .call { callee := .value (.func 4), args := #[.tmp 54, .tmp 55], argTypes := #[5, 23] }, type := 32, pos := _, after := #[{ on := 2, ground := .data }, { on := 3, ground := .data }], guard := none }) rfl (fun K hK => ?_) AllReadyH.nil
      go_simp
      go_at_call 4
      refine (zaddr_c p4 p6 n1 _ o1 _ (HZ.out _ (HW0.out.trans (hHeld.out.mono HW0.out.size))) (oct16 o1)).mono ?_
      rintro e w1 ⟨rfl, hb1⟩
      have HB1 : Hid (Below ((w.alloc (.cells (ar16 o1) 23)).alloc (.cells (ar16 o2) 23)).heap.size ((w.alloc (.cells (ar16 o1) 23)).alloc (.cells (ar16 o2) 23)) w1) := hHeld.out.trans (hb1.mono hHeld.out.size)
      have HMn := Hid.mk'' (blk_on hb1 HM.out)
      clear HM
      have HM := HMn
      clear HMn
      clear hb1 hHeld
      go_wp2_with fail
      refine hK.out _ _ (HB1) (fun hHeld => ?_)
      clear hK K
      try simp only [Act.put, List.setIfInBounds_toArray, List.set_cons_zero, List.set_cons_succ]
      refine wpAnyH_ready (rs := [7]) (by kernel_rfl) (by simp) ?_
      refine AllReadyH.cons (o := { dst := some 59, op := .call { callee := .value (.func 4), args := #[.tmp 57, .tmp 58], argTypes := #[5, 23] }, type := 32, pos := _, after := #[{ on := 5, ground := .data }, { on := 6, ground := .data }, { on := 4, ground := .chain }], guard := none }) rfl (fun K hK => ?_) AllReadyH.nil
      go_simp
      go_at_call 4
      refine (zaddr_c p4 p6 n2 _ o2 _ (HZ.out _ (HW0.out.trans (hHeld.out.mono HW0.out.size))) (oct16 o2)).mono ?_
      rintro e w2 ⟨rfl, hb1⟩
      have HB2 : Hid (Below ((w.alloc (.cells (ar16 o1) 23)).alloc (.cells (ar16 o2) 23)).heap.size ((w.alloc (.cells (ar16 o1) 23)).alloc (.cells (ar16 o2) 23)) w2) := hHeld.out.trans (hb1.mono hHeld.out.size)
      have HMn := Hid.mk'' (blk_on hb1 HM.out)
      clear HM
      have HM := HMn
      clear HMn
      clear hb1 hHeld
      go_wp2_with fail
      refine hK.out _ _ (HB2) (fun hHeld => ?_)
      clear hK K
      try simp only [Act.put, List.setIfInBounds_toArray, List.set_cons_zero, List.set_cons_succ]
      refine wpAnyH_ready (rs := [11]) (by kernel_rfl) (by simp) ?_
      refine AllReadyH.cons (o := { dst := some 63, op := .call { callee := .value (.func 5), args := #[.tmp 62], argTypes := #[24] }, type := 24, pos := _, after := #[{ on := 10, ground := .data }, { on := 7, ground := .chain }], guard := none }) rfl (fun K hK => ?_) AllReadyH.nil
      go_simp
      go_at_call 5
      refine (clone_bytes da dc dat _ (HD.out.all (HW0.out.trans (hHeld.out.mono HW0.out.size))) HDn.out (by have := HDl.out; omega)).mono ?_
      rintro e w3 ⟨a3, rfl, hV3, hn3, hp3, hb1⟩
      have HB3 : Hid (Below ((w.alloc (.cells (ar16 o1) 23)).alloc (.cells (ar16 o2) 23)).heap.size ((w.alloc (.cells (ar16 o1) 23)).alloc (.cells (ar16 o2) 23)) w3) := hHeld.out.trans (hb1.mono hHeld.out.size)
      have HV3 := Hid.mk'' hV3
      have HN3 : Hid (a3 = none → dat = []) := fun q => List.length_eq_zero_iff.mp (hn3 q)
      have HNE : Hid (∀ b off, a3 = some ⟨b, off, none⟩ → b ≠ mb) := fun b off q e => by have := (hp3 b off q).1; have := HM.out.lt; omega
      clear hV3 hn3 hp3
      have HMn := Hid.mk'' (blk_on hb1 HM.out)
      clear HM
      have HM := HMn
      clear HMn
      clear hb1 hHeld
      go_wp2_with fail
      refine hK.out _ _ (HB3) (fun hHeld => ?_)
      clear hK K
      try simp only [Act.put, List.setIfInBounds_toArray, List.set_cons_zero, List.set_cons_succ]
      refine wpAnyH_take (i := 12) (oi := { dst := some 64, op := .build 36 #[(0, .tmp 52), (1, .tmp 53), (2, .tmp 56), (3, .tmp 59), (4, .tmp 60), (5, .tmp 61), (6, .tmp 63)], type := 36, pos := _, after := #[{ on := 0, ground := .data }, { on := 1, ground := .data }, { on := 4, ground := .data }, { on := 7, ground := .data }, { on := 8, ground := .data }, { on := 9, ground := .data }, { on := 11, ground := .data }], guard := none }) (v := .agg #[.int .u32 pa, .int .u32 la, .int .u64 (aHi n1 o1 : Nat), .int .u64 (aLo n1 o1 : Nat), .pointer (aZ p4 p6 n1), .int .u64 (aHi n2 o2 : Nat), .int .u64 (aLo n2 o2 : Nat), .pointer (aZ p4 p6 n2), .bool lc, .bool a4, .slice a3 dat.length dat.length]) rfl (by kernel_rfl) (by kernel_rfl) (by kernel_rfl) (fun _ _ _ h => h) (Or.inl ⟨by rfl, fun W hSW => by go_simp⟩) (by assumption) ?_
      try simp only [Act.put, List.setIfInBounds_toArray, List.set_cons_zero, List.set_cons_succ]
      obtain ⟨m0, m1, m2, m3, m4, m5, m6, m7, m8, m9, m10, mf⟩ := cells11 HM.out
      refine wpAnyH_ready (rs := [14]) (by kernel_rfl) (by simp) ?_
      refine AllReadyH.cons (o := { dst := none, op := .store 36 (.tmp 21) (.tmp 64), type := 0, pos := _, after := #[{ on := 13, ground := .data }, { on := 12, ground := .data }, { on := 11, ground := .chain }, { on := 0, ground := .phase }, { on := 1, ground := .phase }, { on := 2, ground := .phase }, { on := 3, ground := .phase }, { on := 4, ground := .phase }, { on := 5, ground := .phase }, { on := 6, ground := .phase }, { on := 7, ground := .phase }, { on := 8, ground := .phase }, { on := 9, ground := .phase }, { on := 10, ground := .phase }, { on := 11, ground := .phase }, { on := 12, ground := .phase }, { on := 13, ground := .phase }], guard := none }) rfl (fun K hK => ?_) AllReadyH.nil
      go_simp
      have HFin := Hid.mk'' (fin_all (.int .u32 pa) (.int .u32 la) (.int .u64 (aHi n1 o1 : Nat)) (.int .u64 (aLo n1 o1 : Nat)) (.pointer (aZ p4 p6 n1)) (.int .u64 (aHi n2 o2 : Nat)) (.int .u64 (aLo n2 o2 : Nat)) (.pointer (aZ p4 p6 n2)) (.bool lc) (.bool a4) (.slice a3 dat.length dat.length) hHeld.out HM.out HMs.out HV3.out HNE.out)
      refine hK.out _ _ (HFin.out.1) (fun hHeld => ?_)
      clear hK K
      refine wpAnyH_done (by kernel_rfl) ?_ _
      go_wp2_with fail
      go_meet
      exact ⟨mb, a3, rfl, HFin.out.2.1, HFin.out.2.2, HN3.out, HW0.out.trans (hHeld.out.mono HW0.out.size)⟩
  case rest =>
    obtain ⟨mb, a3, rfl, HM, HV, HN, HB⟩ := hcut
    clear l1
    by_cases hok : ((n1 = 4 ∧ n2 = 4 ∨ n1 = 6 ∧ n2 = 6) ∧ (a4 = true ∨ pa < 65536 ∧ la < 65536))
    · obtain ⟨hn, ha⟩ := hok
      have hn' : n2 = n1 := by omega
      obtain rfl : n2 = n1 := hn'
      have HK : Hid (n2 = 4 ∨ n2 = 6) := by rcases hn with h | h; exact .inl h.1; exact .inr h.1
      have HG := Hid.mk'' ha
      clear hn ha H1 H2
      try clear hn'
      go_upto_region 9 with (first
        | (go_at_call 6; refine (record_ok mb pa la n2 o1 o2 lc a4 a3 dat dat.length ts p4 p6 _ (HZ.out _ HB.out) HM.out HA.out HL.out HV.out HN.out HDl.out HK.out HG.out).mono ?_; rintro e w1 ⟨g, c, len, rfl, hback, hb1⟩; have HBK := Hid.mk'' hback; have HB1 := Hid.mk'' (HB.out.trans (hb1.mono HB.out.size)); have HM1 := Hid.mk'' (blk_on hb1 HM.out); clear hback hb1)
        | fail)
      go_cut [24] from 70 to 83 (fun s wx => s = .bool true ∧ wx = (w1.alloc (.cells (recOf ts (subOf lc a4) (.slice (some ⟨g, 0, none⟩) len c)) 40)))
      case first =>
        rcases HK.out with rfl | rfl
        all_goals (
          go_wp2_with fail
          go_meet
          exact ⟨rfl, rfl⟩)
      case rest =>
      obtain ⟨rfl, rfl⟩ := hcut
      go_upto_region 10 with fail
      go_cut [25] from 84 to 92 (fun s wx => s = .bool true ∧ wx = (w1.alloc (.cells (recOf ts (subOf lc a4) (.slice (some ⟨g, 0, none⟩) len c)) 40)))
      case first =>
        cases a4
        · obtain ⟨k1, k2⟩ : (pa : Int) < 65536 ∧ (la : Int) < 65536 := by have := HG.out.resolve_left (by decide); omega
          go_wp2_with fail
          go_meet
          exact ⟨rfl, rfl⟩
        · go_wp2_with fail
          go_meet
          exact ⟨rfl, rfl⟩
      case rest =>
      obtain ⟨rfl, rfl⟩ := hcut
      have e00 : subOf false false = 1 := rfl
      have e01 : subOf false true = 4 := rfl
      have e10 : subOf true false = 6 := rfl
      have e11 : subOf true true = 7 := rfl
      cases lc <;> cases a4 <;> simp only [e00, e01, e10, e11]
      · clear e00 e01 e10 e11
        go_upto_region 27 with (first
          | (go_at_call 7; refine (HBK.out _ w1.heap.size (by exact (Below.refl _ _).alloc (Nat.le_refl _) _) (by exact Blk.new _ _ _)).mono ?_; rintro e w2 ⟨x, cc, rfl, hV2, hb2⟩; have HV2 := Hid.mk'' hV2; have HB2 := Hid.mk'' (below_al1 HB1.out HB1.out.size hb2); have HM2 := Hid.mk'' (blk_al1 HM1.out hb2); clear hV2 hb2)
          | fail)
        have z98 := fun w => eq98 w (aZ p4 p6 n2)
        have hml := HM2.out.lt
        have hmn : ¬ mb = w2.heap.size := by omega
        have c0 := HM2.out.cell 0
        have c1 := HM2.out.cell 1
        have c2 := HM2.out.cell 2
        have c3 := HM2.out.cell 3
        have c4 := HM2.out.cell 4
        have c5 := HM2.out.cell 5
        have c6 := HM2.out.cell 6
        have c7 := HM2.out.cell 7
        simp only [msgOf, List.getElem?_toArray, List.getElem?_cons_succ, List.getElem?_cons_zero] at c0 c1 c2 c3 c4 c5 c6 c7
        go_wp2_with (first
          | (go_at_call 8; refine (sameBytes_any _ _ _ _ dat _ (by have := HDl.out; omega) (by exact HV2.out.alloc _) (by exact (HD.out.all HB2.out).alloc _)).mono ?_; rintro e w3 ⟨rfl, nq, hq⟩)
          | fail)
        go_ret
        exact ⟨rfl, below_drewNr (HB2.out.alloc HB2.out.size _) nq⟩
      · clear e00 e01 e10 e11
        go_upto_region 27 with (first
          | (go_at_call 7; refine (HBK.out _ w1.heap.size (by exact (Below.refl _ _).alloc (Nat.le_refl _) _) (by exact Blk.new _ _ _)).mono ?_; rintro e w2 ⟨x, cc, rfl, hV2, hb2⟩; have HV2 := Hid.mk'' hV2; have HB2 := Hid.mk'' (below_al1 HB1.out HB1.out.size hb2); have HM2 := Hid.mk'' (blk_al1 HM1.out hb2); clear hV2 hb2)
          | fail)
        have z98 := fun w => eq98 w (aZ p4 p6 n2)
        have hml := HM2.out.lt
        have hmn : ¬ mb = w2.heap.size := by omega
        have c0 := HM2.out.cell 0
        have c1 := HM2.out.cell 1
        have c2 := HM2.out.cell 2
        have c3 := HM2.out.cell 3
        have c4 := HM2.out.cell 4
        have c5 := HM2.out.cell 5
        have c6 := HM2.out.cell 6
        have c7 := HM2.out.cell 7
        simp only [msgOf, List.getElem?_toArray, List.getElem?_cons_succ, List.getElem?_cons_zero] at c0 c1 c2 c3 c4 c5 c6 c7
        go_wp2_with (first
          | (go_at_call 8; refine (sameBytes_any _ _ _ _ dat _ (by have := HDl.out; omega) (by exact HV2.out.alloc _) (by exact (HD.out.all HB2.out).alloc _)).mono ?_; rintro e w3 ⟨rfl, nq, hq⟩)
          | fail)
        go_ret
        exact ⟨rfl, below_drewNr (HB2.out.alloc HB2.out.size _) nq⟩
      · clear e00 e01 e10 e11
        go_upto_region 27 with (first
          | (go_at_call 7; refine (HBK.out _ w1.heap.size (by exact (Below.refl _ _).alloc (Nat.le_refl _) _) (by exact Blk.new _ _ _)).mono ?_; rintro e w2 ⟨x, cc, rfl, hV2, hb2⟩; have HV2 := Hid.mk'' hV2; have HB2 := Hid.mk'' (below_al1 HB1.out HB1.out.size hb2); have HM2 := Hid.mk'' (blk_al1 HM1.out hb2); clear hV2 hb2)
          | fail)
        have z98 := fun w => eq98 w (aZ p4 p6 n2)
        have hml := HM2.out.lt
        have hmn : ¬ mb = w2.heap.size := by omega
        have c0 := HM2.out.cell 0
        have c1 := HM2.out.cell 1
        have c2 := HM2.out.cell 2
        have c3 := HM2.out.cell 3
        have c4 := HM2.out.cell 4
        have c5 := HM2.out.cell 5
        have c6 := HM2.out.cell 6
        have c7 := HM2.out.cell 7
        simp only [msgOf, List.getElem?_toArray, List.getElem?_cons_succ, List.getElem?_cons_zero] at c0 c1 c2 c3 c4 c5 c6 c7
        go_wp2_with (first
          | (go_at_call 8; refine (sameBytes_any _ _ _ _ dat _ (by have := HDl.out; omega) (by exact HV2.out.alloc _) (by exact (HD.out.all HB2.out).alloc _)).mono ?_; rintro e w3 ⟨rfl, nq, hq⟩)
          | fail)
        go_ret
        exact ⟨rfl, below_drewNr (HB2.out.alloc HB2.out.size _) nq⟩
      · clear e00 e01 e10 e11
        go_upto_region 27 with (first
          | (go_at_call 7; refine (HBK.out _ w1.heap.size (by exact (Below.refl _ _).alloc (Nat.le_refl _) _) (by exact Blk.new _ _ _)).mono ?_; rintro e w2 ⟨x, cc, rfl, hV2, hb2⟩; have HV2 := Hid.mk'' hV2; have HB2 := Hid.mk'' (below_al1 HB1.out HB1.out.size hb2); have HM2 := Hid.mk'' (blk_al1 HM1.out hb2); clear hV2 hb2)
          | fail)
        have z98 := fun w => eq98 w (aZ p4 p6 n2)
        have hml := HM2.out.lt
        have hmn : ¬ mb = w2.heap.size := by omega
        have c0 := HM2.out.cell 0
        have c1 := HM2.out.cell 1
        have c2 := HM2.out.cell 2
        have c3 := HM2.out.cell 3
        have c4 := HM2.out.cell 4
        have c5 := HM2.out.cell 5
        have c6 := HM2.out.cell 6
        have c7 := HM2.out.cell 7
        simp only [msgOf, List.getElem?_toArray, List.getElem?_cons_succ, List.getElem?_cons_zero] at c0 c1 c2 c3 c4 c5 c6 c7
        go_wp2_with (first
          | (go_at_call 8; refine (sameBytes_any _ _ _ _ dat _ (by have := HDl.out; omega) (by exact HV2.out.alloc _) (by exact (HD.out.all HB2.out).alloc _)).mono ?_; rintro e w3 ⟨rfl, nq, hq⟩)
          | fail)
        go_ret
        exact ⟨rfl, below_drewNr (HB2.out.alloc HB2.out.size _) nq⟩
    · have HK := Hid.mk'' hok
      clear hok
      go_upto_region 9 with (first
        | (go_at_call 6; refine (record_bad F mb pa la n1 n2 o1 o2 lc a4 _ ts p4 p6 _ (by rw [HB.out.tape]; exact HF.out) (HZ.out _ HB.out) HM.out HA.out HL.out HK.out).mono ?_; rintro e w1 ⟨a, rfl, hb1⟩; have HB1 := Hid.mk'' (HB.out.trans (hb1.mono HB.out.size)); clear hb1)
        | fail)
      go_cut [24] from 70 to 83 (fun s wx => (∃ f : Bool, s = .bool f ∧ Hid (f = true ↔ (n1 = 4 ∧ n2 = 4 ∨ n1 = 6 ∧ n2 = 6))) ∧ wx = (w1.alloc (.cells Z4 40)))
      case first =>
        rcases H1.out with rfl | rfl | rfl <;> rcases H2.out with rfl | rfl | rfl
        all_goals (
          go_wp2_with fail
          go_meet
          exact ⟨⟨_, rfl, by simp [Hid]⟩, rfl⟩)
      case rest =>
      obtain ⟨⟨f, rfl, HKf⟩, rfl⟩ := hcut
      go_upto_region 10 with fail
      go_cut [25] from 84 to 92 (fun s wx => (∃ f : Bool, s = .bool f ∧ Hid (f = true ↔ (a4 = true ∨ pa < 65536 ∧ la < 65536))) ∧ wx = (w1.alloc (.cells Z4 40)))
      case first =>
        cases a4
        · by_cases k1 : (pa : Int) < 65536 <;> by_cases k2 : (la : Int) < 65536
          all_goals (
            go_wp2_with fail
            go_meet
            exact ⟨⟨_, rfl, by show _ ↔ _; simp; omega⟩, rfl⟩)
        · go_wp2_with fail
          go_meet
          exact ⟨⟨_, rfl, by show _ ↔ _; simp⟩, rfl⟩
      case rest =>
      obtain ⟨⟨f2, rfl, HKg⟩, rfl⟩ := hcut
      cases f <;> cases f2
      · go_wp2_with fail
        go_ret
        exact ⟨rfl, HB1.out.alloc HB1.out.size _⟩
      · go_wp2_with fail
        go_ret
        exact ⟨rfl, HB1.out.alloc HB1.out.size _⟩
      · go_wp2_with fail
        go_ret
        exact ⟨rfl, HB1.out.alloc HB1.out.size _⟩
      · exact absurd ⟨HKf.out.mp rfl, HKg.out.mp rfl⟩ HK.out

end Go.Proofs.Qxb6003778aFmt
