import Derived.Test.Qxb6003861aFmtAdF
namespace Go.Proofs.Qxb6003861aFmt
open Go.RowKit
set_option linter.unusedVariables false
set_option linter.unusedSimpArgs false

theorem info2 : (Tryf.prog.info? 2).map (fun i => (i.zero, i.size, i.bytes)) = some (some (.int .i64 0), 1, 8) := by kernel_rfl
theorem info3 : (Tryf.prog.info? 3).map (fun i => (i.zero, i.size, i.bytes)) = some (some (.int .i64 0), 1, 8) := by kernel_rfl
theorem info34 : (Tryf.prog.info? 34).map (fun i => (i.zero, i.size, i.bytes)) = some (some (.int .u64 0), 1, 8) := by kernel_rfl
theorem info43 : (Tryf.prog.info? 43).map (fun i => (i.zero, i.size, i.bytes)) = some (some (.slice none 0 0), 1, 24) := by kernel_rfl
theorem info66 : (Tryf.prog.info? 66).map (fun i => (i.zero, i.size, i.bytes)) = some (some (.slice none 0 0), 1, 24) := by kernel_rfl
/-- 'make' of n cells. -/
theorem run_mk1 {t e : TypeId} {z : Value} {b : Nat} (ht : Tryf.prog.underlying t = some (.slice e)) (hI : (Tryf.prog.info? e).map (fun i => (i.zero, i.size, i.bytes)) = some (some z, 1, b)) (hz1 : z.cells = #[z]) (n : Nat) (hn : n ≤ 1000000) (hb : b ≤ 24) (w : World) :
    (Instr.makeSlice t (.int .i64 (n : Int)) (.int .i64 (n : Int))).run Tryf.prog w = .ok (.slice (some ⟨w.heap.size, 0, none⟩) n n) (w.alloc (.cells (Array.replicate n z) e)) := by
  obtain ⟨i, hi, hz, h1, h2⟩ := info_at hI
  have hbb : (i.bytes : Int) * (n : Int) ≤ 281474976710656 := by
    have h : i.bytes * n ≤ 24 * 1000000 := Nat.mul_le_mul (by omega) hn
    have h' : ((i.bytes * n : Nat) : Int) ≤ 281474976710656 := by omega
    rwa [Int.natCast_mul] at h'
  have hr := run_make (P := Tryf.prog) w t e i z ht hi hz .i64 .i64 n n (by omega) (by omega) hbb (by omega)
  simp only [Int.toNat_natCast] at hr
  rw [hr, h1, hz1]
  have : madeCells #[z] (n * 1) = Array.replicate n z := by
    apply Array.ext'
    rw [toList_madeCells_one]
    simp
  rw [this]
theorem ic_rep (n : Nat) : (ic (List.replicate n 0)).toArray = Array.replicate n (.int .i64 0) := by simp [ic]
theorem Kept.one (w : World) (pb k : Nat) (v : Value) : Kept w (w.setCell ⟨pb, k, none⟩ v) (fun i => i = pb) := (Kept.refl w (fun i => i = pb)).set (.inl rfl) v
theorem Blk.new' {w : World} {H : Nat} (h : w.heap.size = H) (T : TypeId) (xs : Array Value) : Blk (w.alloc (.cells xs T)) H T xs := by subst h; exact Blk.new w T xs
/-- The nodes. -/
def ND (w : World) (nb : Nat) (cao : Option Addr) (ccap : Nat) (ids : List Int) : Prop := Blk w nb 42 #[.slice cao ids.length ccap] ∧ View w cao (ic ids) ∧ ids.length ≤ 64
/-- A row of tallies. -/
def IW (w : World) (ao : Option Addr) (l : List Int) : Prop := l = [] ∨ ∃ g, ao = some ⟨g, 0, none⟩ ∧ Blk w g 3 (ic l).toArray

theorem ids_any (w : World) (nb : Nat) (cao : Option Addr) (ccap : Nat) (ids : List Int) (h : ND w nb cao ccap ids) : Calls Tryf.prog 51 #[.pointer (some ⟨nb, 0, none⟩)] w fun e w' => e = .returned (.slice cao ids.length ccap) ∧ w' = w := by
  have c0 : w.cell? ⟨nb, 0, none⟩ = some (.slice cao ids.length ccap) := h.1.cell 0
  clear h
  go_enter Tryf.func51, Tryf.ntmps51
  go_wp2_with fail
  go_ret
  exact ⟨rfl, rfl⟩
theorem nplace_any (w : World) (nb : Nat) (cao : Option Addr) (ccap : Nat) (ids : List Int) (v : Int) (h : ND w nb cao ccap ids) : Calls Tryf.prog 52 #[.pointer (some ⟨nb, 0, none⟩), .int .i64 v] w fun e w' => e = .returned (.tuple #[.int .i64 ((pl ids v).getD 0 : Nat), .bool (pl ids v).isSome]) ∧ w' = w := by
  have c0 : w.cell? ⟨nb, 0, none⟩ = some (.slice cao ids.length ccap) := h.1.cell 0
  have HV := Hid.mk'' h.2.1
  have h64 := h.2.2
  clear h
  go_enter Tryf.func52, Tryf.ntmps52
  go_wp2_with (go_at_call 8; refine (place_any cao ccap ids v w HV.out (by omega)).mono ?_; rintro e w1 ⟨rfl, rfl⟩)
  refine bodyPost_ret (v := .tuple #[.int .i64 ((pl ids v).getD 0 : Nat), .bool (pl ids v).isSome]) (by simp [results, Tryf.results52, go_sem]) rfl ?_
  exact ⟨rfl, rfl⟩
/-- The step. -/
def SB (w : World) (sb nb lb : Nat) (limit : Int) (sv rv wv : Value) : Prop := Blk w sb 70 #[.int .i64 limit, .func (.func 12) #[] #[.pointer (some ⟨lb, 0, none⟩)], .iface 40 (.pointer (some ⟨nb, 0, none⟩)), sv, rv, wv]

set_option maxRecDepth 100000 in
set_option maxHeartbeats 2000000 in
theorem splace_any (w : World) (sb nb lb : Nat) (limit : Int) (sv rv wv : Value) (cao : Option Addr) (ccap : Nat) (ids : List Int) (v : Int) (i : Nat) (h : SB w sb nb lb limit sv rv wv) (hN : ND w nb cao ccap ids) (hi : pl ids v = some i) :
    Calls Tryf.prog 25 #[.pointer (some ⟨sb, 0, none⟩), .int .i64 v] w fun e w' => e = .returned (.int .i64 i) ∧ w' = w := by
  have c2 : w.cell? ⟨sb, 2, none⟩ = some (.iface 40 (.pointer (some ⟨nb, 0, none⟩))) := Blk.cell h 2
  have HN := Hid.mk'' hN
  have HI := Hid.mk'' hi
  clear h hN hi
  have hm : ∀ w, (method 214 40 (.pointer (some ⟨nb, 0, none⟩)) "Place").run Tryf.prog w = .ok (52, .pointer (some ⟨nb, 0, none⟩)) w := fun _ => by kernel_rfl
  go_enter Tryf.func25, Tryf.ntmps25
  go_wp2_with (refine (nplace_any w nb cao ccap ids v HN.out).mono ?_; rintro e w1 ⟨rfl, rfl⟩; rw [HI.out]; simp only [Option.getD_some, Option.isSome_some])
  go_ret
  exact ⟨rfl, rfl⟩
theorem zzsent_any (w : World) (sb nb lb : Nat) (limit : Int) (ao bo : Option Addr) (n m c d : Nat) (wv : Value) (h : SB w sb nb lb limit (.slice ao n c) (.slice bo m d) wv) :
    Calls Tryf.prog 17 #[.pointer (some ⟨sb, 0, none⟩)] w fun e w' => e = .returned (.slice ao n c) ∧ w' = w := by
  have c3 : w.cell? ⟨sb, 3, none⟩ = some (.slice ao n c) := Blk.cell h 3
  clear h
  go_enter Tryf.func17, Tryf.ntmps17
  go_wp2_with fail
  go_ret
  exact ⟨rfl, rfl⟩
theorem zzwait_any (w : World) (sb nb lb : Nat) (limit : Int) (ao : Option Addr) (n c : Nat) (sv rv : Value) (h : SB w sb nb lb limit sv rv (.slice ao n c)) :
    Calls Tryf.prog 23 #[.pointer (some ⟨sb, 0, none⟩)] w fun e w' => e = .returned (.slice ao n c) ∧ w' = w := by
  have c5 : w.cell? ⟨sb, 5, none⟩ = some (.slice ao n c) := Blk.cell h 5
  clear h
  go_enter Tryf.func23, Tryf.ntmps23
  go_wp2_with fail
  go_ret
  exact ⟨rfl, rfl⟩
set_option maxRecDepth 100000 in
theorem zeroed_any (n : Nat) (w : World) (h : n ≤ 64) (hn : 0 < n) : Calls Tryf.prog 24 #[.slice none 0 0, .int .i64 n] w fun e w' => e = .returned (.slice (some ⟨w.heap.size, 0, none⟩) n n) ∧ w' = w.alloc (.cells (Array.replicate n (.int .i64 0)) 3) := by
  have i1 : (0 : Int) < (n : Int) := by omega
  have i2 : decide ((0 : Int) < (n : Int)) = true := decide_eq_true i1
  have hmk := run_mk1 Tryf.underlying29 info3 rfl n (by omega) (by omega)
  go_enter Tryf.func24, Tryf.ntmps24
  go_wp2_with fail
  go_ret
  exact ⟨rfl, rfl⟩
set_option maxRecDepth 100000 in
theorem zeroed0_any (w : World) : Calls Tryf.prog 24 #[.slice none 0 0, .int .i64 0] w fun e w' => e = .returned (.slice none 0 0) ∧ w' = w := by
  have hcl : ∀ w, (Builtin.clear_ #[29] 0 #[.slice none 0 0]).run Tryf.prog w = .ok (.tuple #[]) w := fun w => by simp [Builtin.clear_, run_underlying Tryf.underlying29]
  go_enter Tryf.func24, Tryf.ntmps24
  go_wp2_with fail
  go_ret
  exact ⟨rfl, rfl⟩

theorem newstep_any (limit : Int) (lb : Nat) (w : World) : Calls Tryf.prog 11 #[.int .i64 limit, .func (.func 12) #[] #[.pointer (some ⟨lb, 0, none⟩)]] w fun e w' => e = .returned (.pointer (some ⟨w.heap.size, 0, none⟩)) ∧ w' = w.alloc (.cells #[.int .i64 limit, .func (.func 12) #[] #[.pointer (some ⟨lb, 0, none⟩)], .nilIface, .slice none 0 0, .slice none 0 0, .slice none 0 0] 70) := by
  go_enter Tryf.func11, Tryf.ntmps11
  go_wp2_with fail
  go_ret
  exact ⟨rfl, rfl⟩

end Go.Proofs.Qxb6003861aFmt
