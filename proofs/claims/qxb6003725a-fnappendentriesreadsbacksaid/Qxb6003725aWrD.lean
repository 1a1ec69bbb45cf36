import Derived.Test.Qxb6003725aWrA
import Derived.Test.Qxb6003725aWrB
import Derived.Test.Qxb6003725aWrC
import Derived.Deep.QuietTactic
import Derived.BigQuiet
namespace Go.Proofs.Qxb6003725a
open Go.RowKit

theorem bc_shape (l : List UInt8) : ∀ j (hj : j < (bc l).length), ∃ z : Int, (bc l)[j] = .int .u8 z := fun j hj => ⟨_, by simp [bc]; rfl⟩
theorem str_shape (l : List ByteArray) : ∀ j (hj : j < (l.map Value.string).length), ∃ z : ByteArray, (l.map Value.string)[j] = .string z := fun j hj => ⟨_, by simp; rfl⟩
theorem int_shape (l : List Int) : ∀ j (hj : j < (l.map (Value.int .u64)).length), ∃ z : Int, (l.map (Value.int .u64))[j] = .int .u64 z := fun j hj => ⟨_, by simp; rfl⟩

theorem cloneB_any (w : World) (ao : Option Addr) (n cap : Nat) (cs : List Value) (hn : cs.length = n) (hV : View w ao cs) (hnil : ao = none → n = 0) (hsh : ∀ j (hj : j < cs.length), ∃ z : Int, cs[j] = .int .u8 z) (hle : n ≤ 10000000) :
    Calls Try.prog 20 #[.slice ao n cap] w fun e w' => ∃ ao' c', e = .returned (.slice ao' n c') ∧ w'.ownsRow w.heap.size 5 1 (.slice ao' n c') n cs ∧ Below w.heap.size w w' ∧ ao'.isSome = ao.isSome := by
  cases ao with
  | none =>
    obtain rfl := hnil rfl
    obtain rfl : cs = [] := List.eq_nil_of_length_eq_zero hn
    exact (cloneB_nil w 0 cap).mono fun e w' ⟨he, hw⟩ => ⟨none, 0, he, by subst hw; exact World.ownsRow_nil _ _ _ _, by subst hw; exact Below.refl _ _, rfl⟩
  | some a => exact (cloneB_some w a n cap cs hn hV hsh hle).mono fun e w' ⟨he, ho, hb⟩ => ⟨_, _, he, ho, hb, rfl⟩
theorem cloneS_any (w : World) (ao : Option Addr) (n cap : Nat) (cs : List Value) (hn : cs.length = n) (hV : View w ao cs) (hnil : ao = none → n = 0) (hsh : ∀ j (hj : j < cs.length), ∃ z : ByteArray, cs[j] = .string z) (hle : n ≤ 10000000) :
    Calls Try.prog 21 #[.slice ao n cap] w fun e w' => ∃ ao' c', e = .returned (.slice ao' n c') ∧ w'.ownsRow w.heap.size 9 1 (.slice ao' n c') n cs ∧ Below w.heap.size w w' ∧ ao'.isSome = ao.isSome := by
  cases ao with
  | none =>
    obtain rfl := hnil rfl
    obtain rfl : cs = [] := List.eq_nil_of_length_eq_zero hn
    exact (cloneS_nil w 0 cap).mono fun e w' ⟨he, hw⟩ => ⟨none, 0, he, by subst hw; exact World.ownsRow_nil _ _ _ _, by subst hw; exact Below.refl _ _, rfl⟩
  | some a => exact (cloneS_some w a n cap cs hn hV hsh hle).mono fun e w' ⟨he, ho, hb⟩ => ⟨_, _, he, ho, hb, rfl⟩
theorem cloneN_any (w : World) (ao : Option Addr) (n cap : Nat) (cs : List Value) (hn : cs.length = n) (hV : View w ao cs) (hnil : ao = none → n = 0) (hsh : ∀ j (hj : j < cs.length), ∃ z : Int, cs[j] = .int .u64 z) (hle : n ≤ 10000000) :
    Calls Try.prog 22 #[.slice ao n cap] w fun e w' => ∃ ao' c', e = .returned (.slice ao' n c') ∧ w'.ownsRow w.heap.size 42 1 (.slice ao' n c') n cs ∧ Below w.heap.size w w' ∧ ao'.isSome = ao.isSome := by
  cases ao with
  | none =>
    obtain rfl := hnil rfl
    obtain rfl : cs = [] := List.eq_nil_of_length_eq_zero hn
    exact (cloneN_nil w 0 cap).mono fun e w' ⟨he, hw⟩ => ⟨none, 0, he, by subst hw; exact World.ownsRow_nil _ _ _ _, by subst hw; exact Below.refl _ _, rfl⟩
  | some a => exact (cloneN_some w a n cap cs hn hV hsh hle).mono fun e w' ⟨he, ho, hb⟩ => ⟨_, _, he, ho, hb, rfl⟩

theorem entries_any (B : Nat) (v : Value) (l : List UInt8) (ai : Option Addr) (ci : Nat) (ss : List ByteArray) (an : Option Addr) (cn : Nat) (zs : List Int) (w : World)
    (hF : Fits ss zs an.isSome) (hO : OB 5 B w v l) (hB : B ≤ w.heap.size) (hlen : l.length ≤ 1000000000)
    (hI : View w ai (ss.map Value.string)) (hIne : ∀ b off, ai = some ⟨b, off, none⟩ → v.ownBlock ≠ some b)
    (hN : View w an (zs.map (Value.int .u64))) (hNne : ∀ b off, an = some ⟨b, off, none⟩ → v.ownBlock ≠ some b) :
    Calls Try.prog 23 #[v, .slice ai ss.length ci, .slice an zs.length cn] w fun e w' => ∃ v', e = .returned v' ∧ OB 5 B w' v' (l ++ enc an.isSome ss zs) ∧ Ext w w' v v' ∧ OB 5 B w' v l := by
  cases an with
  | none => exact entries_none B v l ai ci ss cn zs w hF hO hB hlen hI hIne
  | some aa => exact entries_some B v l ai ci ss aa cn zs w hF hO hB hlen hI hIne hN hNne

/-- WHAT THE THREE ARGUMENTS ARE, as the laws of this package are told. -/
structure Args (w : World) (ab ai an : Option Addr) (nb : Nat) (lb : List UInt8) (ss : List ByteArray) (zs : List Int) : Prop where
  hb : View w ab (bc lb)
  hi : View w ai (ss.map Value.string)
  hn : View w an (zs.map (Value.int .u64))
  lb : lb.length = nb
  nilb : ab = none → nb = 0
  nili : ai = none → ss.length = 0
  niln : an = none → zs.length = 0
  maxb : nb ≤ maxLen
  maxi : ss.length ≤ maxLen
  maxn : zs.length ≤ maxLen
  maxs : ∀ i, (ss.getD i ByteArray.empty).size ≤ maxLen
  nums : ∀ i, 0 ≤ zs.getD i 0 ∧ zs.getD i 0 < 18446744073709551616

theorem getD_past {α : Type} (l : List α) (i : Nat) (d : α) (h : l.length ≤ i) : l.getD i d = d := by simp [List.getD, List.getElem?_eq_none h]

theorem Args.fits {w : World} {ab ai an : Option Addr} {nb : Nat} {lb : List UInt8} {ss : List ByteArray} {zs : List Int} (h : Args w ab ai an nb lb ss zs) (hy : FitYes nb zs.length an ss) : Fits ss zs an.isSome where
  ids := fun i => by
    rcases Nat.lt_or_ge i ss.length with g | g
    · exact hy.2.2.2.1 i g
    · rw [getD_past _ _ _ g]; decide
  nums := h.nums
  len := hy.2.1
  enough := hy.2.2.2.2

/-- The world behind the three copies. -/
structure Cloned (w w3 : World) (vb : Value) (ai an : Option Addr) (lb : List UInt8) (ss : List ByteArray) (zs : List Int) : Prop where
  ob : OB 5 w.heap.size w3 vb lb
  below : Below w.heap.size w w3
  hi : View w3 ai (ss.map Value.string)
  hn : View w3 an (zs.map (Value.int .u64))
  ine : ∀ b off, ai = some ⟨b, off, none⟩ → vb.ownBlock ≠ some b
  nne : ∀ b off, an = some ⟨b, off, none⟩ → vb.ownBlock ≠ some b

theorem cloned_of {w w1 w2 w3 : World} {vb : Value} {ai an : Option Addr} {lb : List UInt8} {ss : List ByteArray} {zs : List Int} {n1 n2 c1 c2 : Nat} (hO : OB 5 w.heap.size w1 vb lb) (hb1 : Below w.heap.size w w1)
    (h2 : w2.ownsRow w1.heap.size 9 1 (.slice ai n1 c1) n1 (ss.map Value.string)) (hb2 : Below w1.heap.size w1 w2)
    (h3 : w3.ownsRow w2.heap.size 42 1 (.slice an n2 c2) n2 (zs.map (Value.int .u64))) (hb3 : Below w2.heap.size w2 w3) : Cloned w w3 vb ai an lb ss zs := by
  have hO2 : OB 5 w.heap.size w2 vb lb := hO.below hb2 (fun k hk => (hO.lt k hk).2)
  have hO3 : OB 5 w.heap.size w3 vb lb := hO2.below hb3 (fun k hk => (hO2.lt k hk).2)
  obtain ⟨ai', c1', e1, hv1, _, _, _, _, hl1⟩ := View.own h2
  cases e1
  obtain ⟨an', c2', e2, hv2, _, _, _, _, hl2⟩ := View.own h3
  cases e2
  refine ⟨hO3, (hb1.trans (hb2.mono hb1.size)).trans (hb3.mono (Nat.le_trans hb1.size hb2.size)), hv1.all hb3, hv2, fun b off e q => ?_, fun b off e q => ?_⟩
  · have h1 := (hl1 _ e).2.2.1
    have h2 := (hO.lt b q).2
    simp at h1
    omega
  · have h1 := (hl2 _ e).2.2.1
    have h2 := (hO.lt b q).2
    have := hb2.size
    simp at h1
    omega

end Go.Proofs.Qxb6003725a
