import Derived.Test.Qxb6003713aFmtPaA
namespace Go.Proofs.Qxb6003713aFmt
open Go.RowKit
set_option linter.unusedVariables false
set_option linter.unusedSimpArgs false

theorem OB.frozenAt {e : TypeId} {B : Nat} {w : World} {g n cap : Nat} {l : List UInt8} (h : OB e B w (.slice (some ⟨g, 0, none⟩) n cap) l) (hn : l.length = n) (k : Nat) : w.frozen? ⟨g, k, none⟩ = false := by
  subst hn
  exact World.ownsRow.frozenAt h k

set_option maxHeartbeats 1000000 in
theorem put16_any (x : Int) (g N cap0 n cap B : Nat) (l : List UInt8) (w : World) (hx0 : 0 ≤ x) (hx : x < 65536) (hO : OB 5 B w (.slice (some ⟨g, 0, none⟩) N cap0) l) (hN : l.length = N) (h4 : 4 ≤ N) (hn : 2 ≤ n) :
    Calls Tryf.prog 58 #[.agg #[], .slice (some ⟨g, 2, none⟩) n cap, .int .u16 x] w fun e w' => e = .returned (.tuple #[]) ∧ OB 5 B w' (.slice (some ⟨g, 0, none⟩) N cap0) ((l.set 2 (by8 (x / 256))).set 3 (by8 (x % 256))) ∧ Kept w w' (fun k => k = g) := by
  have s1 := (hO.stored hN 2 (by8 (x / 256))).1
  have s2 := (s1.stored (by simpa using hN) 3 (by8 (x % 256))).1
  rw [by8_nat _ (by omega) (by omega)] at s1
  rw [by8_nat _ (by omega) (by omega), by8_nat _ (by omega) (by omega)] at s2
  have f2 : ∀ k, w.frozen? ⟨g, k, none⟩ = false := fun k => hO.frozenAt hN k
  have c2 : w.cell? ⟨g, 2, none⟩ = some (.int .u8 (l[2].toNat : Int)) := hO.cell 2 (by omega)
  have c3 : w.cell? ⟨g, 3, none⟩ = some (.int .u8 (l[3].toNat : Int)) := hO.cell 3 (by omega)
  generalize ((l[2].toNat : Nat) : Int) = z2 at *
  generalize ((l[3].toNat : Nat) : Int) = z3 at *
  have HS : Hid (OB 5 B _ _ _) := s2
  clear s1 s2
  have hb : g < w.heap.size := (hO.lt g rfl).2
  have i1 : (1 : Int) < (n : Int) := by omega
  have j0 : 0 < n := by omega
  go_enter Tryf.func58, Tryf.ntmps58
  go_wp2
  refine bodyPost_end (v := .tuple #[]) (by simp [results, Tryf.results58, go_sem]) rfl ?_
  exact ⟨rfl, HS.out.alloc _, (((Kept.refl _ (fun k => k = g)).set (.inl rfl) _).set (.inl rfl) _).alloc _⟩

/-- What stands between the header and the path attributes' end. -/
def body (fl cn : Int) (fx nl av : List UInt8) : List UInt8 := [0, 0] ++ be16 ((attr fl cn (fx ++ nl)).length + av.length) ++ attr fl cn (fx ++ nl) ++ av
/-- The UPDATE that carries nl. -/
def upd (fl cn : Int) (fx nl av : List UInt8) : List UInt8 := msg 2 (body fl cn fx nl av)

theorem OB.cut0 {e : TypeId} {B : Nat} {w : World} {g n cap : Nat} {l : List UInt8} (h : OB e B w (.slice (some ⟨g, 0, none⟩) n cap) l) : OB e B w (.slice (some ⟨g, 0, none⟩) 0 cap) [] := by
  rcases h.2 with ⟨h2, _⟩ | ⟨g', cap', cur, h2, hb, hg, _, hcm, hcs, _⟩
  · cases h2
  · cases h2
    exact ⟨rfl, .inr ⟨g, cap, cur, rfl, hb, hg, Nat.zero_le _, hcm, hcs, by simp [bc]⟩⟩

theorem attr_length (fl cn : Int) (v : List UInt8) : (attr fl cn v).length = (if 255 < v.length then 4 else 3) + v.length := by
  unfold attr
  split <;> simp [be16] <;> omega

end Go.Proofs.Qxb6003713aFmt
