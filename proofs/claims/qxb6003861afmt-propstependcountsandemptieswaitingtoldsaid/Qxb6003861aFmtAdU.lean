import Derived.Test.Qxb6003861aFmtAdGb
import Derived.Test.Qxb6003861aFmtAdN
import Derived.Laws.CopyOwn
namespace Go.Proofs.Qxb6003861aFmt
open Go.RowKit
set_option linter.unusedVariables false
set_option linter.unusedSimpArgs false
variable {B : Nat}

/-- 'copy' of a whole row onto one that was just made. -/
theorem wpList_cp {w : World} {ops : Array Oper} {rest : List Oper} {o : Oper} {a : Act} {Q : Exit → Act → World → Prop} (hgd : o.guard = none) (d s : Operand) (dT sT : TypeId)
    (ho : o.op = .call { callee := .builtin .copy, args := #[d, s], argTypes := #[dT, sT] }) (elem : TypeId) (hu : Tryf.prog.underlying dT = some (.slice elem)) (hsz : (Tryf.prog.info? elem).map (·.size) = some 1)
    (g n dCap sCap : Nat) (sp : Option Addr) (hd : a.eval d = .slice (some ⟨g, 0, none⟩) n dCap) (hs : a.eval s = .slice sp n sCap) (z : Value) (hg : Blk w g elem (Array.replicate n z)) (cs : List Value) (hn : cs.length = n) (hV : View w sp cs) (h1 : ∀ v ∈ cs, v.oneCell' = true)
    (h : ∀ w', Hid (Blk w' g elem cs.toArray) → Hid (Kept w w' (fun k => k = g)) → wpList Tryf.prog ops Q rest (a.put o.dst (goInt cs.length)) w') : wpList Tryf.prog ops Q (o :: rest) a w := by
  by_cases h0 : cs.length = 0
  · obtain rfl : cs = [] := List.eq_nil_of_length_eq_zero h0
    subst hn
    refine wpList_copy_nothing hgd d s dT sT ho elem hu hsz _ _ _ _ _ _ hd hs (by simp) ?_
    have hg' := hg
    rw [show Array.replicate ([] : List Value).length z = ([] : List Value).toArray by simp] at hg'
    exact h w hg' (Kept.refl _ _)
  · rcases hV with hV | ⟨b, off, rfl, hb, hc⟩
    · rw [hV] at h0; simp at h0
    · refine wpList_copy_own hgd d s dT sT ho elem hu hsz g 0 n dCap ⟨b, off, none⟩ n sCap hd hs _ _ hg cs (by simp [hn]) (fun j v hv => by rw [Addr.add_lit]; exact hc j v hv) (by simp [hn]) h1 ?_
      refine h _ ?_ ?_
      · have := setRow_heap w g _ (cs.toArray) elem _ hg
        show _ = _
        have e : ((Array.replicate n z).toList.take 0 ++ (cs ++ (Array.replicate n z).toList.drop (0 + cs.length))).toArray = cs.toArray := by
          simp [hn]
        rw [e]
        exact this
      · exact ⟨rfl, rfl, rfl, by simp [World.setRow], fun k _ hk => setRow_other w g k _ hk⟩

/-- Begin, whatever the number of nodes. -/
theorem begin_any (limit : Int) (sb nb lb ccap : Nat) (cao : Option Addr) (ids : List Int) (w : World) (hB : B ≤ w.heap.size) (hS : Blk w sb 70 #[.int .i64 limit, .func (.func 12) #[] #[.pointer (some ⟨lb, 0, none⟩)], .nilIface, .slice none 0 0, .slice none 0 0, .slice none 0 0]) (hN : ND w nb cao ccap ids) :
    Calls Tryf.prog 13 #[.pointer (some ⟨sb, 0, none⟩), .iface 40 (.pointer (some ⟨nb, 0, none⟩))] w fun e w' => e = .returned (.tuple #[]) ∧ ∃ so ro, SB w' sb nb lb limit (.slice so ids.length ids.length) (.slice ro ids.length ids.length) (.slice none 0 0) ∧ IWT 3 w' so (List.replicate ids.length 0) ∧ IWT 3 w' ro (List.replicate ids.length 0) ∧ (∀ g, so = some ⟨g, 0, none⟩ → ro ≠ some ⟨g, 0, none⟩) ∧ (∀ g, so = some ⟨g, 0, none⟩ ∨ ro = some ⟨g, 0, none⟩ → w.heap.size ≤ g ∧ ∃ xs, Blk w' g 3 xs) ∧ Kept w w' (fun k => k = sb) ∧ (ids = [] → so = none ∧ ro = none) := by
  by_cases h0 : ids.length = 0
  · obtain rfl : ids = [] := List.eq_nil_of_length_eq_zero h0
    refine (begin0_any limit sb nb lb ccap cao w hS hN).mono ?_
    rintro e w' ⟨rfl, h1, h2⟩
    exact ⟨rfl, none, none, h1, .inl rfl, .inl rfl, (fun g h => by cases h), (fun g h => by rcases h with h | h <;> cases h), h2, fun _ => ⟨rfl, rfl⟩⟩
  · refine (beginN_any limit sb nb lb ccap cao ids w (by omega) hS hN).mono ?_
    rintro e w' ⟨rfl, h1, h2, h3, h4⟩
    refine ⟨rfl, _, _, h1, .inr ⟨_, rfl, ?_⟩, .inr ⟨_, rfl, ?_⟩, ?_, ?_, h4, fun e => absurd (by rw [e]; rfl) h0⟩
    · rw [ic_rep]; exact h2
    · rw [ic_rep]; exact h3
    · intro g e1 e2
      rw [← e1] at e2
      simp at e2
    · intro g h
      rcases h with h | h
      · cases h; exact ⟨Nat.le_refl _, _, h2⟩
      · cases h; exact ⟨by omega, _, h3⟩
theorem run_mkx (m : Nat) (hm : m ≤ 1000000) (w : World) : ∃ cs, (Instr.makeSlice 43 (.int .i64 0) (.int .i64 (m : Int))).run Tryf.prog w = .ok (.slice (some ⟨w.heap.size, 0, none⟩) 0 m) (w.alloc (.cells cs 47)) ∧ cs.size = m * 3 ∧ ∀ u ∈ cs.toList, IsI u := by
  obtain ⟨i, hi, hz, h1, h2⟩ := info_at info47
  have hbb : (i.bytes : Int) * (m : Int) ≤ 281474976710656 := by rw [h2]; omega
  have hr := run_make (P := Tryf.prog) w 43 47 i _ Tryf.underlying43 hi hz .i64 .i64 0 m (by omega) (by omega) hbb (by omega)
  simp only [Int.toNat_natCast, h1] at hr
  refine ⟨_, hr, by simp [madeCells], fun u hu => ?_⟩
  simp only [madeCells, Value.cells] at hu
  simp at hu
  obtain ⟨a, ha, rfl⟩ := hu
  have : a % 3 = 0 ∨ a % 3 = 1 ∨ a % 3 = 2 := by omega
  rcases this with e | e | e <;> rw [e] <;> exact ⟨0, rfl⟩
theorem run_mkw (n : Nat) (hn : n ≤ 1000000) (w : World) : (Instr.makeSlice 50 (.int .i64 (n : Int)) (.int .i64 (n : Int))).run Tryf.prog w = .ok (.slice (some ⟨w.heap.size, 0, none⟩) n n) (w.alloc (.cells (Array.replicate n (.slice none 0 0)) 43)) :=
  run_mk1 Tryf.underlying50 info43 rfl n hn (by omega) w
end Go.Proofs.Qxb6003861aFmt
