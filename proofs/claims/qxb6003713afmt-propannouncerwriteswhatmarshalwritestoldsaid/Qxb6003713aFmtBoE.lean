import Derived.Test.Qxb6003713aFmtBoA
import Derived.Test.Qxb6003713aFmtBoB
import Derived.Test.Qxb6003713aFmtBoC
import Derived.Test.Qxb6003713aFmtBoD
namespace Go.Proofs.Qxb6003713aFmt
open Go.RowKit
set_option linter.unusedVariables false
set_option linter.unusedSimpArgs false

set_option maxRecDepth 100000 in
theorem ann_g1 (n la pa : Nat) (a4 : Bool) (o : Nat → UInt8) (p4 p6 : Addr) (ca : Option Addr) (cc : Nat) (cs : List (Nat → UInt8)) (pp : Option Addr) (pm : Option PI) (ra : Option Addr) (rc : Nat) (rs : List RI) (w : World) (h : ¬ (n = 4 ∨ n = 16)) : Calls Tryf.prog 5 #[.int .u8 n, .agg (ar16 o), .slice ca cs.length cc, .pointer pp, .agg #[.int .u32 la, .int .u32 pa, .bool a4], .slice ra rs.length rc] w fun e w' => e = .returned (.bool true) ∧ Below w.heap.size w w' := by
  have HW : Hid (Below w.heap.size w ((w.alloc (.cells (ar16 o) 39)).alloc (.cells #[.int .u32 la, .int .u32 pa, .bool a4] 44))) := ((Below.refl _ _).alloc (Nat.le_refl _) _).alloc (by simp) _
  have k4 : ¬ (n : Int) = 4 := by omega
  have k6 : ¬ (n : Int) = 16 := by omega
  have j4 : ((n : Int) != 4) = true := by simp; omega
  have j6 : ((n : Int) != 16) = true := by simp; omega
  clear h
  go_enter Tryf.func5, Tryf.ntmps5
  go_wp2_with fail
  go_ret
  exact ⟨rfl, HW.out⟩

set_option maxRecDepth 100000 in
theorem ann_g2 (n la pa : Nat) (a4 : Bool) (o : Nat → UInt8) (p4 p6 : Addr) (ca : Option Addr) (cc : Nat) (cs : List (Nat → UInt8)) (pp : Option Addr) (pm : Option PI) (ra : Option Addr) (rc : Nat) (rs : List RI) (w : World) (hn : n = 4 ∨ n = 16) (h : 4096 < cs.length) : Calls Tryf.prog 5 #[.int .u8 n, .agg (ar16 o), .slice ca cs.length cc, .pointer pp, .agg #[.int .u32 la, .int .u32 pa, .bool a4], .slice ra rs.length rc] w fun e w' => e = .returned (.bool true) ∧ Below w.heap.size w w' := by
  have HW : Hid (Below w.heap.size w ((w.alloc (.cells (ar16 o) 39)).alloc (.cells #[.int .u32 la, .int .u32 pa, .bool a4] 44))) := ((Below.refl _ _).alloc (Nat.le_refl _) _).alloc (by simp) _
  have HNn := Hid.mk'' hn
  have k1 : (4096 : Int) < (cs.length : Int) := by omega
  have k2 : decide ((4096 : Int) < (cs.length : Int)) = true := decide_eq_true k1
  clear hn h
  go_enter Tryf.func5, Tryf.ntmps5
  go_upto_region 1 with fail
  go_cut [36] from 31 to 35 (fun s wx => s = .bool false ∧ wx = ((w.alloc (.cells (ar16 o) 39)).alloc (.cells #[.int .u32 la, .int .u32 pa, .bool a4] 44)))
  case first =>
    rcases HNn.out with rfl | rfl
    all_goals (
      go_wp2_with fail
      go_meet
      exact ⟨rfl, rfl⟩)
  case rest =>
  obtain ⟨rfl, rfl⟩ := hcut
  go_wp2_with fail
  go_ret
  exact ⟨rfl, HW.out⟩

set_option maxRecDepth 100000 in
theorem ann_g3 (n la pa : Nat) (a4 : Bool) (o : Nat → UInt8) (p4 p6 : Addr) (ca : Option Addr) (cc : Nat) (cs : List (Nat → UInt8)) (pp : Option Addr) (pm : Option PI) (ra : Option Addr) (rc : Nat) (rs : List RI) (w : World) (hn : n = 4 ∨ n = 16) (hc : cs.length ≤ 4096) (h : 4096 < rs.length) : Calls Tryf.prog 5 #[.int .u8 n, .agg (ar16 o), .slice ca cs.length cc, .pointer pp, .agg #[.int .u32 la, .int .u32 pa, .bool a4], .slice ra rs.length rc] w fun e w' => e = .returned (.bool true) ∧ Below w.heap.size w w' := by
  have HW : Hid (Below w.heap.size w ((w.alloc (.cells (ar16 o) 39)).alloc (.cells #[.int .u32 la, .int .u32 pa, .bool a4] 44))) := ((Below.refl _ _).alloc (Nat.le_refl _) _).alloc (by simp) _
  have HNn := Hid.mk'' hn
  have k0 : ¬ (4096 : Int) < (cs.length : Int) := by omega
  have k3 : decide ((4096 : Int) < (cs.length : Int)) = false := decide_eq_false k0
  have k1 : (4096 : Int) < (rs.length : Int) := by omega
  have k2 : decide ((4096 : Int) < (rs.length : Int)) = true := decide_eq_true k1
  clear hn h hc
  go_enter Tryf.func5, Tryf.ntmps5
  go_upto_region 1 with fail
  go_cut [36] from 31 to 35 (fun s wx => s = .bool false ∧ wx = ((w.alloc (.cells (ar16 o) 39)).alloc (.cells #[.int .u32 la, .int .u32 pa, .bool a4] 44)))
  case first =>
    rcases HNn.out with rfl | rfl
    all_goals (
      go_wp2_with fail
      go_meet
      exact ⟨rfl, rfl⟩)
  case rest =>
  obtain ⟨rfl, rfl⟩ := hcut
  go_wp2_with fail
  go_ret
  exact ⟨rfl, HW.out⟩

set_option maxRecDepth 100000 in
theorem ann_g4 (n la pa : Nat) (a4 : Bool) (o : Nat → UInt8) (p4 p6 : Addr) (ca : Option Addr) (cc : Nat) (cs : List (Nat → UInt8)) (pp : Option Addr) (pm : Option PI) (ra : Option Addr) (rc : Nat) (rs : List RI) (w : World) (hn : n = 4 ∨ n = 16) (hc : cs.length ≤ 4096) (hr : rs.length ≤ 4096) (q : PI) (hq : pm = some q) (hpv : PMV w pp pm) (h : 4096 < q.tid.length) : Calls Tryf.prog 5 #[.int .u8 n, .agg (ar16 o), .slice ca cs.length cc, .pointer pp, .agg #[.int .u32 la, .int .u32 pa, .bool a4], .slice ra rs.length rc] w fun e w' => e = .returned (.bool true) ∧ Below w.heap.size w w' := by
  have HW : Hid (Below w.heap.size w ((w.alloc (.cells (ar16 o) 39)).alloc (.cells #[.int .u32 la, .int .u32 pa, .bool a4] 44))) := ((Below.refl _ _).alloc (Nat.le_refl _) _).alloc (by simp) _
  subst hq
  obtain ⟨pb, po, ta, tc, rfl, -, -, -, d3, -⟩ := hpv
  have HNn := Hid.mk'' hn
  have k0 : ¬ (4096 : Int) < (cs.length : Int) := by omega
  have k3 : decide ((4096 : Int) < (cs.length : Int)) = false := decide_eq_false k0
  have k1 : ¬ (4096 : Int) < (rs.length : Int) := by omega
  have k2 : decide ((4096 : Int) < (rs.length : Int)) = false := decide_eq_false k1
  have k4 : (4096 : Int) < (q.tid.length : Int) := by omega
  have k5 : decide ((4096 : Int) < (q.tid.length : Int)) = true := decide_eq_true k4
  have d3' := cell_later HW.out d3
  clear hn h hc hr d3
  go_enter Tryf.func5, Tryf.ntmps5
  go_upto_region 1 with fail
  go_cut [36] from 31 to 35 (fun s wx => s = .bool false ∧ wx = ((w.alloc (.cells (ar16 o) 39)).alloc (.cells #[.int .u32 la, .int .u32 pa, .bool a4] 44)))
  case first =>
    rcases HNn.out with rfl | rfl
    all_goals (
      go_wp2_with fail
      go_meet
      exact ⟨rfl, rfl⟩)
  case rest =>
  obtain ⟨rfl, rfl⟩ := hcut
  go_wp2_with fail
  go_ret
  exact ⟨rfl, HW.out⟩

theorem ann_any (n la pa : Nat) (a4 : Bool) (o : Nat → UInt8) (p4 p6 : Addr) (ca : Option Addr) (cc : Nat) (cs : List (Nat → UInt8)) (pp : Option Addr) (pm : Option PI) (ra : Option Addr) (rc : Nat) (rs : List RI) (w : World)
    (hfl : Fl w) (hzs : Zs w p4 p6) (hcv : CV w ca cs) (hpv : PMV w pp pm) (hrv : RV w ra rs) (hla : la < 4294967296) (hpm : ∀ q, pm = some q → q.fl < 256 ∧ q.tt < 256 ∧ q.lb < 4294967296) (hfine : ∀ r ∈ rs, r.fine) :
    Calls Tryf.prog 5 #[.int .u8 n, .agg (ar16 o), .slice ca cs.length cc, .pointer pp, .agg #[.int .u32 la, .int .u32 pa, .bool a4], .slice ra rs.length rc] w fun e w' => e = .returned (.bool true) ∧ Below w.heap.size w w' := by
  by_cases hn : n = 4 ∨ n = 16
  · by_cases hc : cs.length ≤ 4096
    · by_cases hr : rs.length ≤ 4096
      · by_cases hq : ∀ q, pm = some q → q.tid.length ≤ 4096
        · have hB : Bd n la cs pm := ⟨hn, hla, hc, fun q h => ⟨(hpm q h).1, (hpm q h).2.1, (hpm q h).2.2, hq q h⟩⟩
          by_cases h0 : cs.length = 0
          · by_cases hp : pm = none
            · exact ann_00 n la pa a4 o p4 p6 ca cc cs pp pm ra rc rs w hfl hzs hcv hpv hrv hB hr hfine h0 hp
            · exact ann_01 n la pa a4 o p4 p6 ca cc cs pp pm ra rc rs w hfl hzs hcv hpv hrv hB hr hfine h0 hp
          · by_cases hp : pm = none
            · exact ann_10 n la pa a4 o p4 p6 ca cc cs pp pm ra rc rs w hfl hzs hcv hpv hrv hB hr hfine h0 hp
            · exact ann_11 n la pa a4 o p4 p6 ca cc cs pp pm ra rc rs w hfl hzs hcv hpv hrv hB hr hfine h0 hp
        · have : ∃ q, pm = some q ∧ ¬ q.tid.length ≤ 4096 := by
            refine Classical.byContradiction fun hno => hq fun q e => ?_
            exact Classical.byContradiction fun h => hno ⟨q, e, h⟩
          obtain ⟨q, e, h⟩ := this
          exact ann_g4 n la pa a4 o p4 p6 ca cc cs pp pm ra rc rs w hn hc hr q e hpv (by omega)
      · exact ann_g3 n la pa a4 o p4 p6 ca cc cs pp pm ra rc rs w hn hc (by omega)
    · exact ann_g2 n la pa a4 o p4 p6 ca cc cs pp pm ra rc rs w hn (by omega)
  · exact ann_g1 n la pa a4 o p4 p6 ca cc cs pp pm ra rc rs w hn

end Go.Proofs.Qxb6003713aFmt
