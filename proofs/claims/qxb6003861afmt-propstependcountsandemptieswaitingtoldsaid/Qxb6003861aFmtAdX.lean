import Derived.Test.Qxb6003861aFmtAdW
import Derived.Deep.CutBlock
namespace Go.Proofs.Qxb6003861aFmt
open Go.RowKit
set_option linter.unusedVariables false
set_option linter.unusedSimpArgs false
variable {B : Nat}
/-- What the run gives back. -/
def Ran (w : World) (ids : List Int) (limit : Int) (ops : List DO) (e : Ending) (w' : World) : Prop := ∃ (p q : Bool) (r' : List Int) (msb : Nat) (pa : Option Addr) (pc : Nat), e = .returned (.agg #[.bool p, .bool q, .bool true, .int .i64 (mxs (stt ids ops).1 ids.length), .int .i64 (mxs r' ids.length), .slice (some ⟨msb, 0, none⟩) ids.length ids.length, .slice pa ids.length pc]) ∧ Blk w' msb 3 (ic (stt ids ops).1).toArray ∧ View w' pa (ic (stt ids ops).2) ∧ RR limit (stt ids ops).2 r' ids.length ∧ Kept w w' (fun _ => False)
theorem sz2 : (Tryf.prog.info? 2).map (·.size) = some 1 := by kernel_rfl
theorem sz34 : (Tryf.prog.info? 34).map (·.size) = some 1 := by kernel_rfl
theorem ic_one (l : List Int) : ∀ v ∈ ic l, v.oneCell' = true := by
  intro u hu
  obtain ⟨_, _, rfl⟩ := List.mem_map.1 hu
  rfl
theorem uc_one (l : List Int) : ∀ v ∈ uc l, v.oneCell' = true := by
  intro u hu
  obtain ⟨_, _, rfl⟩ := List.mem_map.1 hu
  rfl

def Start (w W2 w3 : World) (B sb nb lb eb : Nat) (limit : Int) (ca so ro da : Option Addr) (cc n : Nat) (ids tape : List Int) : Prop :=
  ((Kept w W2 (fun _ => False) ∧ IWT 2 W2 ca ids ∧ Blk W2 eb 31 Z7 ∧ UW W2 da tape ∧ Blk W2 nb 42 #[.slice ca n cc] ∧ Blk W2 lb 43 #[.slice none 0 0] ∧ (B ≤ nb ∧ B ≤ lb ∧ w.heap.size = B)) ∧ Blk W2 sb 70 #[.int .i64 limit, .func (.func 12) #[] #[.pointer (some ⟨lb, 0, none⟩)], .nilIface, .slice none 0 0, .slice none 0 0, .slice none 0 0] ∧ B ≤ sb) ∧
  (SB w3 sb nb lb limit (.slice so n n) (.slice ro n n) (.slice none 0 0) ∧ IWT 3 w3 so (List.replicate n 0) ∧ IWT 3 w3 ro (List.replicate n 0) ∧ (∀ g, so = some ⟨g, 0, none⟩ → ro ≠ some ⟨g, 0, none⟩) ∧ (∀ g, so = some ⟨g, 0, none⟩ ∨ ro = some ⟨g, 0, none⟩ → W2.heap.size ≤ g ∧ ∃ xs, Blk w3 g 3 xs) ∧ Kept W2 w3 (fun k => k = sb) ∧ (ids = [] → so = none ∧ ro = none))
def kOf (w3 : World) (sb nb lb eb : Nat) (limit : Int) (ca so ro da : Option Addr) (cc n : Nat) (ids tape : List Int) : RC :=
  { c := { sb := sb, nb := nb, lb := lb, limit := limit, cao := ca, ccap := cc, ids := ids, so := so, ro := ro, sc := n, rc := n }, msb := w3.heap.size + 1, mrb := w3.heap.size + 2, wtb := w3.heap.size + 3, rsb := w3.heap.size + 4, e0 := eb, ta := da, tp := tape, f3 := .int .i64 0, f4 := .int .i64 0, f5 := .slice none 0 0, f6 := .slice none 0 0 }
def wOf (w3 : World) (cs : Array Value) (n : Nat) : World := ((((w3.alloc (.cells cs 47)).alloc (.cells (Array.replicate n (.int .i64 0)) 3)).alloc (.cells (Array.replicate n (.int .i64 0)) 3)).alloc (.cells (Array.replicate n (.slice none 0 0)) 43)).alloc (.cells #[.bool true, .bool true, .bool true, .int .i64 0, .int .i64 0, .slice none 0 0, .slice none 0 0] 31)
theorem RU.start {w W2 w3 : World} {B sb nb lb eb : Nat} {limit : Int} {ca so ro da : Option Addr} {cc n m : Nat} {ids tape : List Int} {cs : Array Value} (h : Start w W2 w3 B sb nb lb eb limit ca so ro da cc n ids tape) (heb : w.heap.size ≤ eb) (hn : n = ids.length) (h64 : n ≤ 64) (hm : m ≤ maxLen) (hcs : cs.size = m * 3) (hci : ∀ u ∈ cs.toList, IsI u) :
    RU B w (wOf w3 cs n) (kOf w3 sb nb lb eb limit ca so ro da cc n ids tape) (List.replicate n 0) (List.replicate n 0) (List.replicate n 0) (List.replicate n 0) 0 0 (.slice (some ⟨w3.heap.size, 0, none⟩) 0 m) := by
  subst hn
  obtain ⟨⟨⟨k1, nv, e0, ut, b42, b43, hB1, hB2, hB3⟩, b70, hB4⟩, hS, si, ri, ne, big, k2, nil⟩ := h
  have k3 : Kept w3 (wOf w3 cs ids.length) (fun _ => False) := (((((Kept.refl _ _).alloc _).alloc _).alloc _).alloc _).alloc _
  have t3 : Tame B false w3 (wOf w3 cs ids.length) (fun _ => False) := Tame.ofKept k3
  have t2 : Tame B false W2 w3 (fun k => k = sb) := Tame.ofKept k2
  have z1 := k1.size
  have z2 := k2.size
  have lb42 := b42.lt
  have lb43 := b43.lt
  have lb70 := b70.lt
  have le0 := e0.lt
  have nt : ∀ T, (70 : TypeId) ≠ T → ∀ j, j = sb → NotT W2 j T := fun T hT j e => by subst e; exact b70.notT hT
  have own3 : ∀ g, so = some ⟨g, 0, none⟩ ∨ ro = some ⟨g, 0, none⟩ → W2.heap.size ≤ g ∧ g < w3.heap.size := fun g q => by
    obtain ⟨a, xs, b⟩ := big g q
    exact ⟨a, b.lt⟩
  have e1 : (ic (List.replicate ids.length 0)).toArray = Array.replicate ids.length (.int .i64 0) := ic_rep ids.length
  refine ⟨⟨by omega, by simp [kOf], by simp only [kOf]; omega, by simp only [kOf]; omega, ⟨fun q => ?_, fun q => ?_, fun q => ?_, fun q => ?_⟩, nil, fun j q => ?_, by simp only [kOf]; omega⟩, (k1.next k2 (fun i hi q => by omega)).trans k3, (ut.tame t2 (nt _ (by decide))).tame t3 (fun _ q => q.elim), ⟨⟨.slice none 0 0, Blk.kept hS k3 id, .inl rfl⟩, ?_, (nv.tame t2 (hardF _ (by decide) (by decide)) (fun j e => .inr (nt _ (by decide) j e))).tame t3 (hardF _ (by decide) (by decide)) (fun _ q => q.elim), by simp only [kOf]; omega, ⟨0, Nat.le_refl _, .slice none 0 0, (b43.kept k2 (fun e => nt 43 (by decide) _ e _ b43)).kept k3 id, .inl ⟨rfl, rfl⟩⟩, si.tame t3 (hardF _ (by decide) (by decide)) (fun _ q => q.elim), ri.tame t3 (hardF _ (by decide) (by decide)) (fun _ q => q.elim), by simp [kOf], by simp [kOf], ne, hB2⟩, ?_, ?_, by simp [kOf], ?_, ⟨0, Nat.le_refl _, ?_⟩, ⟨true, true, ?_⟩, (e0.kept k2 (fun e => nt 31 (by decide) _ e _ e0)).kept k3 id⟩
  · have := own3 _ (.inl q); (try simp only [kOf] at this); omega
  · have := own3 _ (.inr q); (try simp only [kOf] at this); omega
  · have := own3 _ (.inl q); (try simp only [kOf] at this); omega
  · have := own3 _ (.inr q); (try simp only [kOf] at this); omega
  · rcases q with q | q | q | q
    · simp only [kOf] at q; omega
    · simp only [kOf] at q; omega
    · have := own3 _ (.inl q); (try simp only [kOf] at this); omega
    · have := own3 _ (.inr q); (try simp only [kOf] at this); omega
  · have := (b42.kept k2 (fun e => nt 42 (by decide) _ e _ b42)).kept k3 id
    exact this
  · rw [e1]
    exact (((Blk.new' (by simp [kOf]) 3 _).alloc _).alloc _).alloc _
  · rw [e1]
    exact ((Blk.new' (by simp [kOf]) 3 _).alloc _).alloc _
  · refine .inr ⟨w3.heap.size + 3, ids.length, Array.replicate ids.length (.slice none 0 0), rfl, ⟨Nat.le_refl _, by omega⟩, (Blk.new' (by simp) 43 _).alloc _, by simp [kOf], fun i hi => ⟨.slice none 0 0, 0, ?_, .inl ⟨rfl, rfl⟩, Nat.le_refl _⟩⟩
    have hi' : i < ids.length := hi
    rw [Array.getElem?_eq_getElem (by simpa using hi')]
    simp
  · refine .inr ⟨w3.heap.size, m, rfl, Nat.zero_le _, ⟨hm, by omega⟩, cs, ?_, hcs, hci⟩
    have : Blk (wOf w3 cs ids.length) w3.heap.size 47 cs := ((((Blk.new w3 47 cs).alloc _).alloc _).alloc _).alloc _
    exact this
  · exact Blk.new' (by simp [kOf]) 31 _

def RQ (B : Nat) (w W : World) (k : RC) (ids : List Int) (ops : List DO) (q : Nat) (xv : Value) : Prop := RU B w W k (stt ids (ops.take q)).1 (stt ids (ops.take q)).2 (stt ids (ops.take q)).1 (stt ids (ops.take q)).2 q q xv

/-- Parts of the run's text. -/
def sq1 : Code → Code
  | .seq a _ => a
  | c => c
def sq2 : Code → Code
  | .seq _ b => b
  | c => c
def bk : Code → Code
  | .block _ c => c
  | c => c
def lp : Code → Code
  | .loop c => c
  | c => c
def body7 (f : Func) : Code := f.body.getD .skip
/-- The script's loop and what follows it. -/
def for7 (f : Func) : Code := sq2 (sq2 (sq2 (sq2 (sq2 (sq2 (sq2 (sq2 (sq2 (sq2 (sq2 (sq2 (sq2 (sq2 (sq2 (body7 f)))))))))))))))
/-- The switch. -/
def sw7 (f : Func) : Code := sq2 (sq1 (sq2 (bk (sq1 (sq2 (lp (bk (sq2 (sq1 (for7 f))))))))))
/-- What follows the loop. -/
def rest7 (f : Func) : Code := sq2 (for7 f)
end Go.Proofs.Qxb6003861aFmt
