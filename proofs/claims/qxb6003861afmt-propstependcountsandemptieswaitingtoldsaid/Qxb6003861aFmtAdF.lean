import Derived.Test.Qxb6003861aFmtAdE
import Derived.Lib.AppendZeros
namespace Go.Proofs.Qxb6003861aFmt
open Go.RowKit
set_option linter.unusedVariables false
set_option linter.unusedSimpArgs false
variable {B : Nat}

theorem info47 : (Tryf.prog.info? 47).map (fun i => (i.zero, i.size, i.bytes)) = some (some (.agg #[.int .i64 0, .int .i64 0, .int .i64 0]), 3, 24) := by kernel_rfl
theorem info76 : (Tryf.prog.info? 76).map (fun i => (i.zero, i.size, i.bytes)) = some (some (.agg #[.int .i64 0, .int .i64 0]), 2, 16) := by kernel_rfl
theorem info_at {T : TypeId} {z : Value} {a b : Nat} (h : (Tryf.prog.info? T).map (fun i => (i.zero, i.size, i.bytes)) = some (some z, a, b)) : ∃ i, Tryf.prog.info? T = some i ∧ i.zero = some z ∧ i.size = a ∧ i.bytes = b := by
  cases hi : Tryf.prog.info? T with
  | none => rw [hi] at h; cases h
  | some i =>
    rw [hi] at h
    simp only [Option.map_some, Option.some.injEq, Prod.mk.injEq] at h
    exact ⟨i, rfl, h.1, h.2.1, h.2.2⟩
theorem run_app43 (w : World) (ty : TypeId) (v : Value) (n : Nat) (h : IR B 47 3 w v n) (x : Value) (m : Nat) (news : List Value) (hs : Src Tryf.prog 3 43 x m news w) (hni : ∀ u ∈ news, IsI u) (hBw : B ≤ w.heap.size) (hnm : n + m ≤ 1000000) :
    ∃ v' w', (Builtin.append_ #[43, 43] ty #[v, x]).run Tryf.prog w = .ok v' w' ∧ IR B 47 3 w' v' (n + m) ∧ Tame B false w w' (fun _ => False) ∧ w.heap.size ≤ w'.heap.size := by
  obtain ⟨i, hi, hz, h1, h2⟩ := info_at info47
  refine run_append_ints w 43 43 ty 47 i _ 3 24 Tryf.underlying43 hi hz h1 h2 rfl ?_ (.inr rfl) v n h x m news hs hni hBw (by simp only [maxLen]; omega) (by omega)
  intro u hu
  simp [Value.cells] at hu
  exact ⟨0, hu⟩
theorem run_app66 (w : World) (ty : TypeId) (v : Value) (n : Nat) (h : IR B 76 2 w v n) (x : Value) (m : Nat) (news : List Value) (hs : Src Tryf.prog 2 66 x m news w) (hni : ∀ u ∈ news, IsI u) (hBw : B ≤ w.heap.size) (hnm : n + m ≤ 1000000) :
    ∃ v' w', (Builtin.append_ #[66, 66] ty #[v, x]).run Tryf.prog w = .ok v' w' ∧ IR B 76 2 w' v' (n + m) ∧ Tame B false w w' (fun _ => False) ∧ w.heap.size ≤ w'.heap.size := by
  obtain ⟨i, hi, hz, h1, h2⟩ := info_at info76
  refine run_append_ints w 66 66 ty 76 i _ 2 16 Tryf.underlying66 hi hz h1 h2 rfl ?_ (.inl rfl) v n h x m news hs hni hBw (by simp only [maxLen]; omega) (by omega)
  intro u hu
  simp [Value.cells] at hu
  exact ⟨0, hu⟩
theorem run_clr66 (w : World) (ty : TypeId) (v : Value) (n : Nat) (h : IR B 76 2 w v n) :
    ∃ w', (Builtin.clear_ #[66] ty #[v]).run Tryf.prog w = .ok (.tuple #[]) w' ∧ IR B 76 2 w' v n ∧ Tame B false w w' (fun _ => False) ∧ w.heap.size ≤ w'.heap.size := by
  obtain ⟨i, hi, hz, h1, h2⟩ := info_at info76
  refine run_clear_ints w 66 ty 76 i _ 2 Tryf.underlying66 hi hz rfl ?_ (.inl rfl) v n h
  intro u hu
  simp [Value.cells] at hu
  exact ⟨0, hu⟩
/-- The source: a slice of one element that has just been laid. -/
theorem src_one {w : World} {sz : Nat} {tx e T : TypeId} (hk : Tryf.prog.underlying tx = some (.slice e)) (B : Nat) (cs : Array Value) (hB : Blk w B T cs) (hsz : cs.size = sz) (h1 : ∀ u ∈ cs.toList, IsI u) : Src Tryf.prog sz tx (.slice (some ⟨B, 0, none⟩) 1 1) 1 cs.toList w :=
  Src.ofSlice w hk _ 1 1 _ (by simp [hsz]) (fun j u hu => by rw [Addr.add_lit, Nat.zero_add, hB.cell]; simpa using hu) (fun u hu => (h1 u hu).one)
theorem src_row {w : World} {sz : Nat} {tx e T : TypeId} {v : Value} {n : Nat} (hk : Tryf.prog.underlying tx = some (.slice e)) (h : IR B T sz w v n) : ∃ news, Src Tryf.prog sz tx v n news w ∧ ∀ u ∈ news, IsI u := by
  rcases h with ⟨rfl, rfl⟩ | ⟨g, cap, rfl, h1, h2, cur, hg, hs, hi⟩
  · exact ⟨[], Src.ofNil w hk 0, fun u hu => by cases hu⟩
  · refine ⟨cur.toList.take (n * sz), Src.ofSlice w hk _ n cap _ ?_ ?_ ?_, fun u hu => hi u (List.mem_of_mem_take hu)⟩
    · rw [List.length_take, Array.length_toList, hs]
      exact Nat.min_eq_left (Nat.mul_le_mul_right _ h1)
    · intro j u hu
      have hB : Blk w g T cur := hg
      rw [Addr.add_lit, Nat.zero_add, hB.cell]
      rw [List.getElem?_take] at hu
      split at hu
      · simpa using hu
      · cases hu
    · exact fun u hu => (hi u (List.mem_of_mem_take hu)).one
/-- At the operation. -/
theorem wp_app {t e : TypeId} {sz : Nat} {o : Oper} {a : Act} {w : World} {K : Act → World → Prop} {Q : Exit → Act → World → Prop} (s y : Operand)
    (ho : o.op = .call { callee := .builtin .append, args := #[s, y], argTypes := #[t, t] })
    (vs vx : Value) (hv : a.eval s = vs) (hx : a.eval y = vx) {R : Value → World → Prop} (hr : ∃ v' w', (Builtin.append_ #[t, t] o.type #[vs, vx]).run Tryf.prog w = .ok v' w' ∧ R v' w')
    (h : ∀ v' w', R v' w' → K (a.put o.dst v') w') : o.wp Tryf.prog a w K Q := by
  obtain ⟨v', w', hr, h2⟩ := hr
  exact Lib.wp_append_run w s y t t ho vs vx hv hx v' w' hr (h v' w' h2)
theorem wpList_app {t : TypeId} {ops : Array Oper} {rest : List Oper} {o : Oper} {a : Act} {w : World} {Q : Exit → Act → World → Prop} (hgd : o.guard = none) (s y : Operand)
    (ho : o.op = .call { callee := .builtin .append, args := #[s, y], argTypes := #[t, t] })
    (vs vx : Value) (hv : a.eval s = vs) (hx : a.eval y = vx) {R : Value → World → Prop} (hr : ∃ v' w', (Builtin.append_ #[t, t] o.type #[vs, vx]).run Tryf.prog w = .ok v' w' ∧ R v' w')
    (h : ∀ v' w', R v' w' → wpList Tryf.prog ops Q rest (a.put o.dst v') w') : wpList Tryf.prog ops Q (o :: rest) a w :=
  wpList_plain hgd fun _ hK => wp_app (e := 0) (sz := 0) s y ho vs vx hv hx hr fun v' w' h2 => hK _ _ (h v' w' h2)
theorem step_app {t : TypeId} {ops : Array Oper} {o : Oper} {a : Act} {w : World} {K : Act → World → Prop} {Q : Exit → Act → World → Prop} {E : Prop} (hgd : o.guard = none) (s y : Operand)
    (ho : o.op = .call { callee := .builtin .append, args := #[s, y], argTypes := #[t, t] })
    (vs vx : Value) (hv : a.eval s = vs) (hx : a.eval y = vx) {R : Value → World → Prop} (hr : ∃ v' w', (Builtin.append_ #[t, t] o.type #[vs, vx]).run Tryf.prog w = .ok v' w' ∧ R v' w')
    (h : ∀ v' w', R v' w' → K (a.put o.dst v') w') : if Region.wanted o (yielded ops a.tmps) = true then Oper.wp Tryf.prog o a w K Q else E := by
  have hw : Region.wanted o (yielded ops a.tmps) = true := by simp [Region.wanted, hgd]
  rw [if_pos hw]
  exact wp_app (e := 0) (sz := 0) s y ho vs vx hv hx hr h

theorem IR.form {T : TypeId} {sz : Nat} {w : World} {v : Value} {n : Nat} (h : IR B T sz w v n) : ∃ ao k, v = .slice ao n k := by
  rcases h with ⟨rfl, rfl⟩ | ⟨g, cap, rfl, _⟩
  · exact ⟨_, _, rfl⟩
  · exact ⟨_, _, rfl⟩
theorem Blk.alloc {w : World} {g : Nat} {T : TypeId} {xs : Array Value} (h : Blk w g T xs) (o : Obj) : Blk (w.alloc o) g T xs := h.kept ((Kept.refl w (fun _ => False)).alloc o) id
theorem IR.alloc {T : TypeId} {sz : Nat} {w : World} {v : Value} {n : Nat} (h : IR B T sz w v n) (o : Obj) : IR B T sz (w.alloc o) v n := h.kept ((Kept.refl w (fun _ => False)).alloc o) (fun _ q => q.elim)
theorem notX {w : World} {T : TypeId} : ∀ g, (fun _ : Nat => False) g → NotT w g T := fun _ q => q.elim
theorem ints3 (a b c : Int) : ∀ u ∈ (#[.int .i64 a, .int .i64 b, .int .i64 c] : Array Value).toList, IsI u := by
  intro u hu
  simp at hu
  rcases hu with rfl | rfl | rfl <;> exact ⟨_, rfl⟩
theorem ints2 (a b : Int) : ∀ u ∈ (#[.int .i64 a, .int .i64 b] : Array Value).toList, IsI u := by
  intro u hu
  simp at hu
  rcases hu with rfl | rfl <;> exact ⟨_, rfl⟩
/-- A row of one element behind the append. -/
theorem run_log (w : World) (ty : TypeId) (v : Value) (m : Nat) (a b c : Int) (h : IR B 47 3 w v m) (hBw : B ≤ w.heap.size) (hm : m ≤ 900000) :
    ∃ v' w', (Builtin.append_ #[43, 43] ty #[v, .slice (some ⟨w.heap.size, 0, none⟩) 1 1]).run Tryf.prog (w.alloc (.cells #[.int .i64 a, .int .i64 b, .int .i64 c] 47)) = .ok v' w' ∧ IR B 47 3 w' v' (m + 1) ∧ Tame B false w w' (fun _ => False) := by
  obtain ⟨v', w', h1, h2, h3, _⟩ := run_app43 (w.alloc (.cells #[.int .i64 a, .int .i64 b, .int .i64 c] 47)) ty v m (h.alloc _) _ 1 _ (src_one Tryf.underlying43 w.heap.size _ (Blk.new w 47 _) rfl (ints3 a b c)) (ints3 a b c) (by simp; omega) (by omega)
  exact ⟨v', w', h1, h2, ((Tame.refl false w _).alloc _).trans h3⟩
theorem run_env (w : World) (ty : TypeId) (v : Value) (m : Nat) (a b : Int) (h : IR B 76 2 w v m) (hBw : B ≤ w.heap.size) (hm : m ≤ 900000) :
    ∃ v' w', (Builtin.append_ #[66, 66] ty #[v, .slice (some ⟨w.heap.size, 0, none⟩) 1 1]).run Tryf.prog (w.alloc (.cells #[.int .i64 a, .int .i64 b] 76)) = .ok v' w' ∧ IR B 76 2 w' v' (m + 1) ∧ Tame B false w w' (fun _ => False) := by
  obtain ⟨v', w', h1, h2, h3, _⟩ := run_app66 (w.alloc (.cells #[.int .i64 a, .int .i64 b] 76)) ty v m (h.alloc _) _ 1 _ (src_one Tryf.underlying66 w.heap.size _ (Blk.new w 76 _) rfl (ints2 a b)) (ints2 a b) (by simp; omega) (by omega)
  exact ⟨v', w', h1, h2, ((Tame.refl false w _).alloc _).trans h3⟩

/-- The log. -/
def Lg (B : Nat) (w : World) (lb m : Nat) : Prop := ∃ v, Blk w lb 43 #[v] ∧ IR B 47 3 w v m
theorem Lg.form {w : World} {lb m : Nat} (h : Lg B w lb m) : ∃ ao k, Blk w lb 43 #[.slice ao m k] ∧ IR B 47 3 w (.slice ao m k) m := by
  obtain ⟨v, hB, hI⟩ := h
  rcases hI with ⟨rfl, rfl⟩ | ⟨g, cap, rfl, h⟩
  · exact ⟨none, 0, hB, .inl ⟨rfl, rfl⟩⟩
  · exact ⟨_, _, hB, .inr ⟨g, cap, rfl, h⟩⟩
set_option maxRecDepth 100000 in
set_option maxHeartbeats 2000000 in
theorem log_any (lb m : Nat) (a b c : Int) (w : World) (h : Lg B w lb m) (hb : B ≤ lb) (hm : m ≤ 900000) :
    Calls Tryf.prog 12 #[.int .i64 a, .int .i64 b, .int .i64 c, .pointer (some ⟨lb, 0, none⟩)] w fun e w' => e = .returned (.tuple #[]) ∧ Lg B w' lb (m + 1) ∧ Tame B false w w' (fun k => k = lb) := by
  obtain ⟨ao, k, hB, hI⟩ := h.form
  have HB := Hid.mk'' hB
  have HBw : Hid (B ≤ w.heap.size) := Nat.le_trans hb (Nat.le_of_lt hB.lt)
  have HI := Hid.mk'' hI
  have c0 : w.cell? ⟨lb, 0, none⟩ = some (.slice ao m k) := hB.cell 0
  have f0 := hB.frozen
  clear hB hI h
  go_enter Tryf.func12, Tryf.ntmps12
  go_wp2_with (at_builtin; go_must (refine wpList_app (t := 43) rfl (.tmp 7) (.tmp 12) rfl _ _ rfl rfl (run_log w _ _ m a b c HI.out HBw.out hm) ?_); intro v1 w1 h1; obtain ⟨ao1, k1, rfl⟩ := h1.1.form; have HI1 := Hid.mk'' h1.1; have HT1 := Hid.mk'' h1.2; have HB1 := Hid.mk'' (HB.out.tame h1.2 id ⟨by decide, by decide, fun h => by cases h⟩); clear h1; have d0 := HB1.out.cell 0; have g0 := HB1.out.frozen)
  refine bodyPost_end (v := .tuple #[]) (by simp [results, Tryf.results12, go_sem]) rfl ?_
  refine ⟨rfl, ⟨_, HB1.out.set 0 _, HI1.out.kept (((Kept.refl w1 (fun k => k = lb))).set (k := 0) (.inl rfl) _) ?_⟩, Tame.set (X := fun k => k = lb) (HT1.out.mono fun _ _ q => q.elim) (.inl rfl) _⟩
  rintro g rfl
  exact HB1.out.notT (by decide)

end Go.Proofs.Qxb6003861aFmt
