import Derived.Test.Qxb6003778aFmtRoB
namespace Go.Proofs.Qxb6003778aFmt
open Go.RowKit Go.Extern.Stop Go.Stop Go.Extern
set_option linter.unusedVariables false
set_option linter.unusedSimpArgs false

theorem below2 (w : World) (a b : Obj) : Below w.heap.size w ((w.alloc a).alloc b) := ((Below.refl _ _).alloc (Nat.le_refl _) _).alloc (by simp) _

set_option maxRecDepth 100000 in
theorem root_big (F : Interp) (n1 n2 : Nat) (pa la : Nat) (hpa : pa < 4294967296) (hla : la < 4294967296) (o1 o2 : Nat → UInt8) (lc a4 : Bool) (da : Option Addr) (dat : List UInt8) (dc : Nat) (ts : Int) (p4 p6 : Addr) (w : World) (hF : F.answers w.tape) (hz : Zs w p4 p6) (hD : View w da (bc dat)) (hdn : da = none → dat = []) (hdl : 1073741824 < dat.length) :
    Calls Tryf.prog 3 #[.int .u32 pa, .int .u32 la, .int .u8 n1, .agg (ar16 o1), .int .u8 n2, .agg (ar16 o2), .bool lc, .bool a4, .slice da dat.length dc, .int .u32 ts] w fun e w' => e = .returned (.bool true) ∧ Below w.heap.size w w' := by
  have HW0 := Hid.mk'' (below2 w (.cells (ar16 o1) 23) (.cells (ar16 o2) 23))
  have l1 : (1073741824 : Int) < (dat.length : Int) := by omega
  clear hz hD hdn hdl hF hpa hla
  go_enter Tryf.func3, Tryf.ntmps3
  go_wp2_with fail
  go_ret
  exact ⟨rfl, HW0.out⟩

set_option maxRecDepth 100000 in
theorem root_k1 (F : Interp) (n1 n2 : Nat) (h1 : ¬ (n1 = 0 ∨ n1 = 4 ∨ n1 = 6)) (pa la : Nat) (hpa : pa < 4294967296) (hla : la < 4294967296) (o1 o2 : Nat → UInt8) (lc a4 : Bool) (da : Option Addr) (dat : List UInt8) (dc : Nat) (ts : Int) (p4 p6 : Addr) (w : World) (hF : F.answers w.tape) (hz : Zs w p4 p6) (hD : View w da (bc dat)) (hdn : da = none → dat = []) (hdl : dat.length ≤ 1073741824) :
    Calls Tryf.prog 3 #[.int .u32 pa, .int .u32 la, .int .u8 n1, .agg (ar16 o1), .int .u8 n2, .agg (ar16 o2), .bool lc, .bool a4, .slice da dat.length dc, .int .u32 ts] w fun e w' => e = .returned (.bool true) ∧ Below w.heap.size w w' := by
  have HW0 := Hid.mk'' (below2 w (.cells (ar16 o1) 23) (.cells (ar16 o2) 23))
  have l1 : ¬ (1073741824 : Int) < (dat.length : Int) := by omega
  have k0 : ¬ (n1 : Int) = 0 := by omega
  have j0 : ((n1 : Int) != 0) = true := by simp; omega
  have k4 : ¬ (n1 : Int) = 4 := by omega
  have j4 : ((n1 : Int) != 4) = true := by simp; omega
  have k6 : ¬ (n1 : Int) = 6 := by omega
  have j6 : ((n1 : Int) != 6) = true := by simp; omega
  clear hz hD hdn hdl hF hpa hla h1
  go_enter Tryf.func3, Tryf.ntmps3
  go_wp2_with fail
  go_ret
  exact ⟨rfl, HW0.out⟩

set_option maxRecDepth 100000 in
theorem root_k2 (F : Interp) (n1 n2 : Nat) (h1 : n1 = 0 ∨ n1 = 4 ∨ n1 = 6) (h2 : ¬ (n2 = 0 ∨ n2 = 4 ∨ n2 = 6)) (pa la : Nat) (hpa : pa < 4294967296) (hla : la < 4294967296) (o1 o2 : Nat → UInt8) (lc a4 : Bool) (da : Option Addr) (dat : List UInt8) (dc : Nat) (ts : Int) (p4 p6 : Addr) (w : World) (hF : F.answers w.tape) (hz : Zs w p4 p6) (hD : View w da (bc dat)) (hdn : da = none → dat = []) (hdl : dat.length ≤ 1073741824) :
    Calls Tryf.prog 3 #[.int .u32 pa, .int .u32 la, .int .u8 n1, .agg (ar16 o1), .int .u8 n2, .agg (ar16 o2), .bool lc, .bool a4, .slice da dat.length dc, .int .u32 ts] w fun e w' => e = .returned (.bool true) ∧ Below w.heap.size w w' := by
  have HW0 := Hid.mk'' (below2 w (.cells (ar16 o1) 23) (.cells (ar16 o2) 23))
  have l1 : ¬ (1073741824 : Int) < (dat.length : Int) := by omega
  have H1 := Hid.mk'' h1
  have H2 := Hid.mk'' h2
  clear hz hD hdn hdl hF hpa hla h1 h2
  go_enter Tryf.func3, Tryf.ntmps3
  go_upto_region 3 with fail
  go_cut [41] from 32 to 40 (fun s wx => s = .bool false ∧ wx = ((w.alloc (.cells (ar16 o1) 23)).alloc (.cells (ar16 o2) 23)))
  case first =>
    rcases H1.out with rfl | rfl | rfl
    all_goals (
      go_wp2_with fail
      go_meet
      exact ⟨rfl, rfl⟩)
  case rest =>
  obtain ⟨rfl, rfl⟩ := hcut
  have k0 : ¬ (n2 : Int) = 0 := by have := H2.out; omega
  have j0 : ((n2 : Int) != 0) = true := by have := H2.out; simp; omega
  have k4 : ¬ (n2 : Int) = 4 := by have := H2.out; omega
  have j4 : ((n2 : Int) != 4) = true := by have := H2.out; simp; omega
  have k6 : ¬ (n2 : Int) = 6 := by have := H2.out; omega
  have j6 : ((n2 : Int) != 6) = true := by have := H2.out; simp; omega
  go_wp2_with fail
  go_ret
  exact ⟨rfl, HW0.out⟩

theorem root_any (F : Interp) (n1 n2 : Nat) (pa la : Nat) (hpa : pa < 4294967296) (hla : la < 4294967296) (o1 o2 : Nat → UInt8) (lc a4 : Bool) (da : Option Addr) (dat : List UInt8) (dc : Nat) (ts : Int) (p4 p6 : Addr) (w : World) (hF : F.answers w.tape) (hz : Zs w p4 p6) (hD : View w da (bc dat)) (hdn : da = none → dat = []) :
    Calls Tryf.prog 3 #[.int .u32 pa, .int .u32 la, .int .u8 n1, .agg (ar16 o1), .int .u8 n2, .agg (ar16 o2), .bool lc, .bool a4, .slice da dat.length dc, .int .u32 ts] w fun e w' => e = .returned (.bool true) ∧ Below w.heap.size w w' := by
  by_cases hdl : dat.length ≤ 1073741824
  · by_cases h1 : n1 = 0 ∨ n1 = 4 ∨ n1 = 6
    · by_cases h2 : n2 = 0 ∨ n2 = 4 ∨ n2 = 6
      · exact root_x F n1 n2 h1 h2 pa la hpa hla o1 o2 lc a4 da dat dc ts p4 p6 w hF hz hD hdn hdl
      · exact root_k2 F n1 n2 h1 h2 pa la hpa hla o1 o2 lc a4 da dat dc ts p4 p6 w hF hz hD hdn hdl
    · exact root_k1 F n1 n2 h1 pa la hpa hla o1 o2 lc a4 da dat dc ts p4 p6 w hF hz hD hdn hdl
  · exact root_big F n1 n2 pa la hpa hla o1 o2 lc a4 da dat dc ts p4 p6 w hF hz hD hdn (by omega)

end Go.Proofs.Qxb6003778aFmt
