import Derived.Test.Qxb6003861aFmtAdH
namespace Go.Proofs.Qxb6003861aFmt
open Go.RowKit
set_option linter.unusedVariables false
set_option linter.unusedSimpArgs false

/-- One operation of the script, plain. -/
structure DO where
  kind : Int
  a : Int
  b : Int
  route : Int
  out : Int
  inn : Int
def DO.cells (o : DO) : Array Value := #[.int .i64 o.kind, .int .i64 o.a, .int .i64 o.b, .int .i64 o.route, .int .i64 o.out, .int .i64 o.inn]
/-- The script as it lies. -/
def OV (w : World) (oa : Option Addr) (ops : List DO) : Prop := ops = [] ∨ ∃ b off, oa = some ⟨b, off, none⟩ ∧ b < w.heap.size ∧ ∀ k o, ops[k]? = some o → ∀ f v, o.cells[f]? = some v → w.cell? ⟨b, off + k * 6 + f, none⟩ = some v
theorem OV.kept {w w' : World} {oa : Option Addr} {ops : List DO} {X : Nat → Prop} (h : OV w oa ops) (k : Kept w w' X) (hX : ∀ b off, oa = some ⟨b, off, none⟩ → ¬ X b) : OV w' oa ops := by
  rcases h with h | ⟨b, off, e, hb, hc⟩
  · exact .inl h
  · exact .inr ⟨b, off, e, Nat.lt_of_lt_of_le hb k.size, fun i o ho f v hv => Kept.cell k (hc i o ho f v hv) (hX b off e)⟩
theorem OV.at {w : World} {oa : Option Addr} {ops : List DO} (h : OV w oa ops) {k : Nat} {o : DO} (ho : ops[k]? = some o) : ∃ b off, oa = some ⟨b, off, none⟩ ∧ w.cell? ⟨b, off + k * 6, none⟩ = some (.int .i64 o.kind) ∧ w.cell? ⟨b, off + k * 6 + 1, none⟩ = some (.int .i64 o.a) ∧ w.cell? ⟨b, off + k * 6 + 2, none⟩ = some (.int .i64 o.b) ∧ w.cell? ⟨b, off + k * 6 + 3, none⟩ = some (.int .i64 o.route) ∧ w.cell? ⟨b, off + k * 6 + 4, none⟩ = some (.int .i64 o.out) ∧ w.cell? ⟨b, off + k * 6 + 5, none⟩ = some (.int .i64 o.inn) := by
  rcases h with rfl | ⟨b, off, e, hb, hc⟩
  · simp at ho
  · exact ⟨b, off, e, hc k o ho 0 _ rfl, hc k o ho 1 _ rfl, hc k o ho 2 _ rfl, hc k o ho 3 _ rfl, hc k o ho 4 _ rfl, hc k o ho 5 _ rfl⟩
/-- What the premise says of one operation. -/
def good (ids : List Int) (o : DO) : Prop :=
  (o.kind = 0 ∧ (pl ids o.a).isSome) ∨ (o.kind = 1 ∧ ((o.route = 2) ∨ ((o.route = 0 ∨ o.route = 1) ∧ (pl ids o.a).isSome))) ∨ (o.kind = 2 ∧ (pl ids o.a).isSome ∧ (pl ids o.b).isSome)
/-- The tallies behind one operation. -/
def nxt (ids : List Int) (st : List Int × List Int) (o : DO) : List Int × List Int :=
  if o.kind = 0 then (up st.1 ((pl ids o.a).getD 0) o.out, up st.2 ((pl ids o.a).getD 0) o.inn)
  else if o.kind = 1 then (if o.route = 2 then st.1 else up st.1 ((pl ids o.a).getD 0) 1, if o.route = 1 ∧ (pl ids o.b).isSome then up st.2 ((pl ids o.b).getD 0) 1 else st.2)
  else (up st.1 ((pl ids o.a).getD 0) 1, up st.2 ((pl ids o.b).getD 0) 1)
def stt (ids : List Int) (ops : List DO) : List Int × List Int := ops.foldl (nxt ids) (List.replicate ids.length 0, List.replicate ids.length 0)
theorem nxt_length (ids : List Int) (st : List Int × List Int) (o : DO) : (nxt ids st o).1.length = st.1.length ∧ (nxt ids st o).2.length = st.2.length := by
  unfold nxt
  split
  · exact ⟨up_length _ _ _, up_length _ _ _⟩
  · split
    · constructor
      · dsimp only; split
        · rfl
        · exact up_length _ _ _
      · dsimp only; split
        · exact up_length _ _ _
        · rfl
    · exact ⟨up_length _ _ _, up_length _ _ _⟩
theorem foldl_length (ids : List Int) (ops : List DO) : ∀ st : List Int × List Int, (ops.foldl (nxt ids) st).1.length = st.1.length ∧ (ops.foldl (nxt ids) st).2.length = st.2.length := by
  induction ops with
  | nil => exact fun st => ⟨rfl, rfl⟩
  | cons o ops ih =>
    intro st
    rw [List.foldl_cons]
    exact ⟨(ih _).1.trans (nxt_length ids st o).1, (ih _).2.trans (nxt_length ids st o).2⟩
theorem stt_length (ids : List Int) (ops : List DO) : (stt ids ops).1.length = ids.length ∧ (stt ids ops).2.length = ids.length := by
  have h := foldl_length ids ops (List.replicate ids.length 0, List.replicate ids.length 0)
  exact ⟨h.1.trans (by simp), h.2.trans (by simp)⟩
theorem stt_next (ids : List Int) (ops : List DO) (k : Nat) (o : DO) (ho : ops[k]? = some o) : stt ids (ops.take (k + 1)) = nxt ids (stt ids (ops.take k)) o := by
  unfold stt
  rw [List.take_add_one, ho, List.foldl_append]
  rfl
theorem inR_wrap (z : Int) : InR (wrap64 z) := by
  unfold InR wrap64
  omega
theorem inR_up (l : List Int) (i : Nat) (d : Int) (h : ∀ k, InR (l.getD k 0)) : ∀ k, InR ((up l i d).getD k 0) := by
  intro k
  unfold up
  by_cases e : i = k
  · subst e
    by_cases hl : i < l.length
    · simp only [List.getD_eq_getElem?_getD, List.getElem?_set_self hl, Option.getD_some]
      exact inR_wrap _
    · rw [List.set_eq_of_length_le (by omega)]
      exact h i
  · simp only [List.getD_eq_getElem?_getD, List.getElem?_set_ne e]
    simpa only [List.getD_eq_getElem?_getD] using h k
theorem inR_nxt (ids : List Int) (st : List Int × List Int) (o : DO) (h : ∀ k, InR (st.2.getD k 0)) : ∀ k, InR ((nxt ids st o).2.getD k 0) := by
  unfold nxt
  split
  · exact inR_up _ _ _ h
  · split
    · dsimp only
      split
      · exact inR_up _ _ _ h
      · exact h
    · exact inR_up _ _ _ h
theorem inR_foldl (ids : List Int) (ops : List DO) : ∀ st : List Int × List Int, (∀ k, InR (st.2.getD k 0)) → ∀ k, InR ((ops.foldl (nxt ids) st).2.getD k 0) := by
  induction ops with
  | nil => exact fun st h => h
  | cons o ops ih => exact fun st h => ih _ (inR_nxt ids st o h)
theorem inR_stt (ids : List Int) (ops : List DO) : ∀ k, InR ((stt ids ops).2.getD k 0) := by
  refine inR_foldl ids ops _ (fun k => ?_)
  have : (List.replicate ids.length (0 : Int)).getD k 0 = 0 := by
    simp only [List.getD_eq_getElem?_getD, List.getElem?_replicate]
    split <;> rfl
  rw [this]
  exact ⟨by omega, by omega⟩
/-- What the premise says. -/
def Prem (ids : List Int) (limit : Int) (ops : List DO) : Prop := (∀ o ∈ ops, good ids o) ∧ ∀ k, k < ids.length → InR (limit - (stt ids ops).2.getD k 0)
/-- The premise's own rows at work. -/
structure P2 (w W : World) (sb rb : Nat) (s r : List Int) : Prop where
  kp : Kept w W (fun _ => False)
  sB : Blk W sb 3 (ic s).toArray
  rB : Blk W rb 3 (ic r).toArray
  ne : sb ≠ rb
  nw : w.heap.size ≤ sb ∧ w.heap.size ≤ rb
theorem P2.drewN {w W : World} {sb rb : Nat} {s r : List Int} (h : P2 w W sb rb s r) (n : Nat) : P2 w (W.drewN n) sb rb s r := ⟨h.kp.drewN n, h.sB.drewN n, h.rB.drewN n, h.ne, h.nw⟩
theorem P2.alloc {w W : World} {sb rb : Nat} {s r : List Int} (h : P2 w W sb rb s r) (o : Obj) : P2 w (W.alloc o) sb rb s r := ⟨h.kp.alloc o, h.sB.alloc o, h.rB.alloc o, h.ne, h.nw⟩
theorem P2.sent {w W : World} {sb rb : Nat} {s r : List Int} (h : P2 w W sb rb s r) (i : Nat) (z : Int) : P2 w (W.setCell ⟨sb, i, none⟩ (.int .i64 z)) sb rb (s.set i z) r :=
  ⟨h.kp.next (Kept.one W sb i _) (fun j hj q => by have := h.nw.1; omega), IWT.set h.sB i z, h.rB.kept (Kept.one W sb i _) (fun e => h.ne e.symm), h.ne, h.nw⟩
theorem P2.recv {w W : World} {sb rb : Nat} {s r : List Int} (h : P2 w W sb rb s r) (i : Nat) (z : Int) : P2 w (W.setCell ⟨rb, i, none⟩ (.int .i64 z)) sb rb s (r.set i z) :=
  ⟨h.kp.next (Kept.one W rb i _) (fun j hj q => by have := h.nw.2; omega), h.sB.kept (Kept.one W rb i _) (fun e => h.ne e), IWT.set h.rB i z, h.ne, h.nw⟩
theorem P2.cs {w W : World} {sb rb : Nat} {s r : List Int} (h : P2 w W sb rb s r) {i : Nat} (hi : i < s.length) : W.cell? ⟨sb, i, none⟩ = some (.int .i64 (s.getD i 0)) := by
  rw [h.sB.cell]
  have := ic_get s i hi
  simpa using this
theorem P2.cr {w W : World} {sb rb : Nat} {s r : List Int} (h : P2 w W sb rb s r) {i : Nat} (hi : i < r.length) : W.cell? ⟨rb, i, none⟩ = some (.int .i64 (r.getD i 0)) := by
  rw [h.rB.cell]
  have := ic_get r i hi
  simpa using this
end Go.Proofs.Qxb6003861aFmt
